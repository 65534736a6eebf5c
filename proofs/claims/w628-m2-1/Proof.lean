import JvmDerived
import JvmDerived.Pilot.@@N@@Statement
import JvmDerived.Pilot.@@N@@Code
set_option linter.unusedVariables false
set_option linter.unusedSimpArgs false
@@BLOCK:NumsL.lean.txt@@
namespace Jvm.OwnKit
open Sem ClassFile Op Lib Jvm.Stand Jvm.Free Jvm.LawKit Jvm.RoadKit
/-! A small heap of our own: the cells made since the law began, in the order of their making: an array (its component type, its values) or an object (its class, its fields). -/
abbrev Cel := Sum (FieldType × List Value) (String × List (String × String × Value))
abbrev Cont := Nat → List Slot → List Value → List Cel → Nat → Nat → Prop
/-- the address of the i-th cell made -/
def ad (n i : Nat) : Nat := n + i
/-- every field of the list is laid in the class; one name, one descriptor -/
def LaidAll (Z : State) (C : String) (fs : List (String × String × Value)) : Prop := ∃ a0, ∀ f ∈ fs, Laid Z a0 C C f.1 f.2.1 ∧ (∃ ty, parseFieldDescriptor f.2.1 = some ty) ∧ ∀ f' ∈ fs, f'.1 = f.1 → f'.2.1 = f.2.1
def RepC (Z : State) (h : Heap) (a : Addr) : Cel → Prop
  | .inl (ty, vs) => ∃ cl : Cell, Arr Z h a cl ty ∧ cl.slots = vs.toArray
  | .inr (C, fs) => Exa Z h a C ∧ (∀ f ∈ fs, Fld Z h a C f.1 f.2.1 f.2.2) ∧ LaidAll Z C fs
def Rep (Z : State) (b h : Heap) (H : List Cel) : Prop := h.size = b.size + H.length ∧ ∀ i c, H[i]? = some c → RepC Z h (ad b.size i) c
theorem RepC.ext {Z : State} {h h' : Heap} {a : Addr} {c : Cel} (E : Ext h h') (r : RepC Z h a c) : RepC Z h' a c := by
  rcases c with ⟨ty, vs⟩ | ⟨C, fs⟩
  · obtain ⟨cl, A, e⟩ := r; exact ⟨cl, A.ext E, e⟩
  · exact ⟨r.1.ext E, fun f hf => (r.2.1 f hf).ext E, r.2.2⟩
theorem Rep.push {Z : State} {b h h' : Heap} {H : List Cel} {c : Cel} (r : Rep Z b h H) (E : Ext h h') (hs : h'.size = h.size + 1) (hc : RepC Z h' h.size c) : Rep Z b h' (H ++ [c]) := by
  refine ⟨by rw [hs, r.1]; simp [Nat.add_assoc], fun i c' hi => ?_⟩
  rcases Nat.lt_trichotomy i H.length with q | q | q
  · rw [List.getElem?_append_left q] at hi
    exact (r.2 i c' hi).ext E
  · subst q
    simp at hi; subst hi
    have e : ad b.size H.length = h.size := by rw [r.1]; rfl
    rw [e]; exact hc
  · rw [List.getElem?_eq_none (by simp; omega)] at hi; cases hi
theorem RepC.other {Z : State} {h h' : Heap} {a a' : Addr} {sl : Nat} {v : Value} {c : Cel} (W : Wr h h' a' sl v) (hne : a ≠ a') (r : RepC Z h a c) : RepC Z h' a c := by
  rcases c with ⟨ty, vs⟩ | ⟨C, fs⟩
  · obtain ⟨cl, A, e⟩ := r; exact ⟨cl, A.other W hne, e⟩
  · exact ⟨r.1.wr W, fun f hf => (r.2.1 f hf).other W (Or.inl hne), r.2.2⟩
theorem Rep.set {Z : State} {b h h' : Heap} {H : List Cel} {i : Nat} {c' : Cel} {sl : Nat} {v : Value} (r : Rep Z b h H) (W : Wr h h' (ad b.size i) sl v) (hc : RepC Z h' (ad b.size i) c') : Rep Z b h' (H.set i c') := by
  refine ⟨by rw [W.size, r.1]; simp, fun j c hj => ?_⟩
  by_cases e : j = i
  · subst e
    by_cases q : j < H.length
    · rw [List.getElem?_set_self q] at hj; cases hj; exact hc
    · rw [List.getElem?_eq_none (by simp; omega)] at hj; cases hj
  · rw [List.getElem?_set_ne (Ne.symm e)] at hj
    exact (r.2 j c hj).other W (by simp [ad]; omega)
theorem Rep.setArr {Z : State} {b h h' : Heap} {H : List Cel} {i : Nat} {ty : FieldType} {vs : List Value} {sl : Nat} {v : Value} (r : Rep Z b h H) (hi : H[i]? = some (.inl (ty, vs))) (W : Wr h h' (ad b.size i) sl v) : Rep Z b h' (H.set i (.inl (ty, vs.set sl v))) := by
  obtain ⟨cl, A, e⟩ := r.2 i _ hi
  exact r.set W ⟨_, A.same W, by simp [Cell.setSlot, e]⟩

/-! Where the walk stands, in plain words: from here the invocation ends, and what it returns and leaves fits K. -/
def G (code : ByteArray) (own nm : String) (maxL : Nat) (ret : Option FieldType) (R : Room) (W : List Jvm.Cond) (l : Launch) (Z : State) (b : Heap) (rc rs : Nat) (K : Option Value → List Cel → Prop)
    (pc : Nat) (ls : List Slot) (st : List Value) (H : List Cel) (cN sN : Nat) : Prop :=
  ∀ (p : Program) (e : Env) (s : State) (m : MethodId) (args : Array Value) (below : List Frame) (meth : Method) (c : Code) (T : State) (locs : List Loc) (a0 : Array Value),
    p.tables.exec = Jvm.exec → c.code = code → c.maxLocals = maxL → meth.sig.returnType = ret → meth.locks = false → meth.name = nm → Z.Warmed39 s.vm → s.vm.findClass own = some m.cls → (∀ d ∈ W, d.before a0 Z = true) →
    Stand p l e R s m args below meth c T locs cN sN → Fr b.size locs → Rep Z b T.heap H →
    ∃ s₂ o, Steps p.tables e below (T.setTop (mkF m pc ls.toArray st)) s₂ ∧ s₂.status = .running ∧ Ended s₂ below o ∧ ∃ v L, o = .returned v ∧ (Fr b.size L ∧ ∃ H', Rep Z b s₂.heap H' ∧ K v H') ∧ FrameEnd s o s₂ L rc rs
/-- what a method does, at these arguments and this heap -/
def Con (W : List Jvm.Cond) (l : Launch) (Z : State) (b : Heap) (y : MethodName) (bytes : ByteArray) (maxL : Nat) (ret : Option FieldType) (rm : Room) (as : List Value) (H : List Cel) (K : Option Value → List Cel → Prop) : Prop :=
  ∀ (a0 : Array Value) (h : Heap), (∀ d ∈ W, d.before a0 Z = true) → Rep Z b h H →
    MetFree l y (head1 [Jvm.Cond.code y bytes maxL ret] rm) (fun a U => a = as.toArray ∧ Z.Warmed39 U.vm ∧ U.heap = h) (fun _ _ _ _ _ => True)
      (fun _ U o U' => ∃ v L, o = .returned v ∧ (Fr b.size L ∧ ∃ H', Rep Z b U'.heap H' ∧ K v H') ∧ FrameEnd U o U' L rm.cells rm.slots)

section Steps
variable {code : ByteArray} {own nm : String} {maxL : Nat} {ret : Option FieldType} {R : Room} {W : List Jvm.Cond} {l : Launch} {Z : State} {b : Heap} {rc rs : Nat} {K : Option Value → List Cel → Prop}
variable {pc pc' : Nat} {ls ls' : List Slot} {st st' : List Value} {H H' : List Cel} {cN sN cN' sN' : Nat}
/-- a step that moves the frame alone -/
theorem G.pure (f : ∀ (p : Program) (e : Env) (s : State) (m : MethodId) (args : Array Value) (below : List Frame) (meth : Method) (c : Code) (T : State) (locs : List Loc) (a0 : Array Value),
      p.tables.exec = Jvm.exec → c.code = code → Z.Warmed39 s.vm → s.vm.findClass own = some m.cls → (∀ d ∈ W, d.before a0 Z = true) → Stand p l e R s m args below meth c T locs cN sN → Rep Z b T.heap H →
      ∀ target, Steps p.tables e below (T.setTop (mkF m pc' ls'.toArray st')) target → Steps p.tables e below (T.setTop (mkF m pc ls.toArray st)) target)
    (h : G code own nm maxL ret R W l Z b rc rs K pc' ls' st' H cN sN) : G code own nm maxL ret R W l Z b rc rs K pc ls st H cN sN := by
  intro p e s m args below meth c T locs a0 hx hc hm hr hk hn hZ ho hw X hF hR
  obtain ⟨s₂, o, h1, h2⟩ := h p e s m args below meth c T locs a0 hx hc hm hr hk hn hZ ho hw X hF hR
  exact ⟨s₂, o, f p e s m args below meth c T locs a0 hx hc hZ ho hw X hR _ h1, h2⟩
/-- a step that moves the heap too -/
theorem G.move (f : ∀ (p : Program) (e : Env) (s : State) (m : MethodId) (args : Array Value) (below : List Frame) (meth : Method) (c : Code) (T : State) (locs : List Loc) (a0 : Array Value),
      p.tables.exec = Jvm.exec → c.code = code → c.maxLocals = maxL → meth.name = nm → Z.Warmed39 s.vm → s.vm.findClass own = some m.cls → (∀ d ∈ W, d.before a0 Z = true) → Stand p l e R s m args below meth c T locs cN sN → Fr b.size locs → Rep Z b T.heap H →
      ∃ T' locs', Stand p l e R s m args below meth c T' locs' cN' sN' ∧ Fr b.size locs' ∧ Rep Z b T'.heap H' ∧
        ∀ target, Steps p.tables e below (T'.setTop (mkF m pc' ls'.toArray st')) target → Steps p.tables e below (T.setTop (mkF m pc ls.toArray st)) target)
    (h : G code own nm maxL ret R W l Z b rc rs K pc' ls' st' H' cN' sN') : G code own nm maxL ret R W l Z b rc rs K pc ls st H cN sN := by
  intro p e s m args below meth c T locs a0 hx hc hm hr hk hn hZ ho hw X hF hR
  obtain ⟨T', locs', X', hF', hR', st⟩ := f p e s m args below meth c T locs a0 hx hc hm hn hZ ho hw X hF hR
  obtain ⟨s₂, o, h1, h2⟩ := h p e s m args below meth c T' locs' a0 hx hc hm hr hk hn hZ ho hw X' hF' hR'
  exact ⟨s₂, o, st _ h1, h2⟩
/-- the return -/
theorem G.leave {v : Option Value} (hv : ret = none → v = none)
    (f : ∀ (p : Program) (e : Env) (s : State) (m : MethodId) (args : Array Value) (below : List Frame) (meth : Method) (c : Code) (T : State) (locs : List Loc),
      p.tables.exec = Jvm.exec → c.code = code → meth.sig.returnType = ret → Stand p l e R s m args below meth c T locs cN sN →
      ∀ fs, (∀ (f : JFrame) (acts : List Action), f.method = m → f.locked = none → f.entered = [] → (doReturn e (T.setTop f) acts v).1 = T.setFrames fs) →
      Steps p.tables e below (T.setTop (mkF m pc ls.toArray st)) (T.setFrames fs))
    (hc : cN ≤ rc) (hs : sN ≤ rs) (hK : K v H) : G code own nm maxL ret R W l Z b rc rs K pc ls st H cN sN := by
  intro p e s m args below meth c T locs a0 hx hcd hm hr hk hn hZ ho hw X hF hR
  obtain ⟨fs, hfs, hrun, hended, hW, hsame⟩ := X.leave (v := v) (fun q => hv (hr ▸ q)) hk
  exact ⟨_, _, f p e s m args below meth c T locs hx hcd hr X fs hfs, hrun, hended, v, locs, rfl, ⟨hF, H, hR, hK⟩, ⟨v, rfl⟩, hW, hsame.mono hc hs⟩
/-- a walk from the entry, as a free contract -/
theorem G.met {y : MethodName} {rm : Room} {as : List Value} {ws : List Jvm.Cond} (hy : plainFor y = true) (ef : ∀ m, entryFrame m as.toArray maxL = mkF m 0 ls.toArray [])
    (g : G code y.cls y.name maxL ret rm W l Z b rc rs K 0 ls [] H 0 0) (a0 : Array Value) (h : Heap) (hw : ∀ d ∈ W, d.before a0 Z = true) (hR : Rep Z b h H) :
    MetFree l y (head1 (Jvm.Cond.code y code maxL ret :: ws) rm) (fun a U => a = as.toArray ∧ Z.Warmed39 U.vm ∧ U.heap = h) (fun _ _ _ _ _ => True)
      (fun _ U o U' => ∃ v L, o = .returned v ∧ (Fr b.size L ∧ ∃ H', Rep Z b U'.heap H' ∧ K v H') ∧ FrameEnd U o U' L rc rs) := by
  refine MetFree.of_bodySF hy hisR ?_
  intro p e s m args below meth c s₁ Bd hml hP _
  obtain ⟨rfl, hZ, hh⟩ := hP
  have X0 : Stand p l e rm s m as.toArray below meth c s₁ [] 0 0 := Stand.of_body Bd
  have e0 : s₁.heap = h := by rw [← hh, Bd.state]; rfl
  obtain ⟨s₂, o, h1, h2, h3, v, L, h4, h5, h6⟩ := g p e s m _ below meth c s₁ [] a0 Bd.exec Bd.bytes hml Bd.returns Bd.notSynchronized (name_of_methodNamed Bd.named Bd.method).1 hZ (findClass_of_methodNamed Bd.named) hw X0 (Fr.nil _) (by rw [e0]; exact hR)
  exact ⟨s₂, o, castTop (ef m) h1, h2, h3, v, L, h4, h5, h6⟩
theorem G.con {y : MethodName} {rm : Room} {as : List Value} (hy : plainFor y = true) (ef : ∀ m, entryFrame m as.toArray maxL = mkF m 0 ls.toArray [])
    (g : G code y.cls y.name maxL ret rm W l Z b rm.cells rm.slots K 0 ls [] H 0 0) : Con W l Z b y code maxL ret rm as H K := fun a0 h hw hR => G.met hy ef g a0 h hw hR
/-- just this is returned, just this heap left -/
def is (v : Option Value) (H : List Cel) : Option Value → List Cel → Prop := fun v' H' => v' = v ∧ H' = H
/-- some byte is returned, the heap left as it was -/
def byt (H : List Cel) : Option Value → List Cel → Prop := fun v H' => ∃ y, v = some (.int y) ∧ nar .byte y = y ∧ H' = H
theorem is_self {v : Option Value} {H : List Cel} : is v H v H := ⟨rfl, rfl⟩
end Steps
end Jvm.OwnKit
namespace Jvm.OwnKit
open Sem ClassFile Op Lib Jvm.Stand Jvm.Free Jvm.LawKit Jvm.RoadKit
def popI (st : List Value) (f : Int32 → List Value → Prop) : Prop := match st with | .int x :: r => f x r | _ => False
def popJ (st : List Value) (f : Int64 → List Value → Prop) : Prop := match st with | .long x :: r => f x r | _ => False
def popR (st : List Value) (f : Nat → List Value → Prop) : Prop := match st with | .ref x :: r => f x r | _ => False
def pop1 (st : List Value) (f : Value → List Value → Prop) : Prop := match st with | .int x :: r => f (.int x) r | .ref x :: r => f (.ref x) r | .null :: r => f .null r | _ => False
def popA (st : List Value) (f : Value → List Value → Prop) : Prop := match st with | .ref x :: r => f (.ref x) r | .null :: r => f .null r | _ => False
theorem popI_c {x : Int32} {r : List Value} {f : Int32 → List Value → Prop} : popI (.int x :: r) f = f x r := propext Iff.rfl
theorem popJ_c {x : Int64} {r : List Value} {f : Int64 → List Value → Prop} : popJ (.long x :: r) f = f x r := propext Iff.rfl
theorem popR_c {x : Nat} {r : List Value} {f : Nat → List Value → Prop} : popR (.ref x :: r) f = f x r := propext Iff.rfl
theorem pop1_i {x : Int32} {r : List Value} {f : Value → List Value → Prop} : pop1 (.int x :: r) f = f (.int x) r := propext Iff.rfl
theorem pop1_r {x : Nat} {r : List Value} {f : Value → List Value → Prop} : pop1 (.ref x :: r) f = f (.ref x) r := propext Iff.rfl
theorem pop1_n {r : List Value} {f : Value → List Value → Prop} : pop1 (.null :: r) f = f .null r := propext Iff.rfl
theorem popA_r {x : Nat} {r : List Value} {f : Value → List Value → Prop} : popA (.ref x :: r) f = f (.ref x) r := propext Iff.rfl
theorem popA_n {r : List Value} {f : Value → List Value → Prop} : popA (.null :: r) f = f .null r := propext Iff.rfl
theorem popI_e {st : List Value} {f : Int32 → List Value → Prop} (h : popI st f) : ∃ x r, st = .int x :: r ∧ f x r := by unfold popI at h; split at h <;> first | exact ⟨_, _, rfl, h⟩ | exact h.elim
theorem popJ_e {st : List Value} {f : Int64 → List Value → Prop} (h : popJ st f) : ∃ x r, st = .long x :: r ∧ f x r := by unfold popJ at h; split at h <;> first | exact ⟨_, _, rfl, h⟩ | exact h.elim
theorem popR_e {st : List Value} {f : Nat → List Value → Prop} (h : popR st f) : ∃ x r, st = .ref x :: r ∧ f x r := by unfold popR at h; split at h <;> first | exact ⟨_, _, rfl, h⟩ | exact h.elim
theorem pop1_e {st : List Value} {f : Value → List Value → Prop} (h : pop1 st f) : ∃ x r, st = x :: r ∧ x.category = 1 ∧ f x r := by unfold pop1 at h; split at h <;> first | exact ⟨_, _, rfl, rfl, h⟩ | exact h.elim
theorem popA_e {st : List Value} {f : Value → List Value → Prop} (h : popA st f) : ∃ x r, st = x :: r ∧ x.isRef = true ∧ x.category = 1 ∧ f x r := by unfold popA at h; split at h <;> first | exact ⟨_, _, rfl, rfl, rfl, h⟩ | exact h.elim
/-! the local variables -/
def ldI (ls : List Slot) (k : Nat) (f : Int32 → Prop) : Prop := match ls[k]? with | some (.val (.int v)) => f v | _ => False
def ldJ (ls : List Slot) (k : Nat) (f : Int64 → Prop) : Prop := match ls[k]? with | some (.val (.long v)) => f v | _ => False
def ldA (ls : List Slot) (k : Nat) (f : Value → Prop) : Prop := match ls[k]? with | some (.val (.ref v)) => f (.ref v) | some (.val .null) => f .null | _ => False
theorem ldI_z {v : Int32} {r : List Slot} {f : Int32 → Prop} : ldI (.val (.int v) :: r) 0 f = f v := propext Iff.rfl
theorem ldJ_z {v : Int64} {r : List Slot} {f : Int64 → Prop} : ldJ (.val (.long v) :: r) 0 f = f v := propext Iff.rfl
theorem ldA_z {v : Nat} {r : List Slot} {f : Value → Prop} : ldA (.val (.ref v) :: r) 0 f = f (.ref v) := propext Iff.rfl
theorem ldA_n {r : List Slot} {f : Value → Prop} : ldA (.val .null :: r) 0 f = f .null := propext Iff.rfl
theorem ldI_s {x : Slot} {r : List Slot} {k : Nat} {f : Int32 → Prop} : ldI (x :: r) (k + 1) f = ldI r k f := propext Iff.rfl
theorem ldJ_s {x : Slot} {r : List Slot} {k : Nat} {f : Int64 → Prop} : ldJ (x :: r) (k + 1) f = ldJ r k f := propext Iff.rfl
theorem ldA_s {x : Slot} {r : List Slot} {k : Nat} {f : Value → Prop} : ldA (x :: r) (k + 1) f = ldA r k f := propext Iff.rfl
theorem ldI_e {ls : List Slot} {k : Nat} {f : Int32 → Prop} (h : ldI ls k f) : ∃ v, ls[k]? = some (.val (.int v)) ∧ f v := by unfold ldI at h; split at h <;> first | exact ⟨_, by assumption, h⟩ | exact h.elim
theorem ldJ_e {ls : List Slot} {k : Nat} {f : Int64 → Prop} (h : ldJ ls k f) : ∃ v, ls[k]? = some (.val (.long v)) ∧ f v := by unfold ldJ at h; split at h <;> first | exact ⟨_, by assumption, h⟩ | exact h.elim
theorem ldA_e {ls : List Slot} {k : Nat} {f : Value → Prop} (h : ldA ls k f) : ∃ v, ls[k]? = some (.val v) ∧ v.isRef = true ∧ f v := by unfold ldA at h; split at h <;> first | exact ⟨_, by assumption, rfl, h⟩ | exact h.elim
/-- a store of one word: where it falls into half of a long, the other half is unset -/
def sto1 (ls : List Slot) (k : Nat) (v : Value) (f : List Slot → Prop) : Prop := match ls[k]? with
  | some .unset => f (ls.set k (.val v))
  | some (.val (.int _)) => f (ls.set k (.val v))
  | some (.val (.ref _)) => f (ls.set k (.val v))
  | some (.val .null) => f (ls.set k (.val v))
  | _ => False
/-- a store of two words, over places that hold no half of another long; or over the very same long -/
def free1 (o : Option Slot) : Bool := match o with | some .unset => true | some (.val (.int _)) => true | some (.val (.ref _)) => true | some (.val .null) => true | _ => false
def sto2 (ls : List Slot) (k : Nat) (v : Value) (f : List Slot → Prop) : Prop := match ls[k]? with
  | some (.val (.long _)) => ls[k + 1]? = some .second ∧ f ((ls.set k (.val v)).set (k + 1) .second)
  | o => free1 o = true ∧ free1 ls[k + 1]? = true ∧ f ((ls.set k (.val v)).set (k + 1) .second)
theorem sto1_u {r : List Slot} {v : Value} {f : List Slot → Prop} : sto1 (.unset :: r) 0 v f = f (.val v :: r) := propext Iff.rfl
theorem sto1_i {x : Int32} {r : List Slot} {v : Value} {f : List Slot → Prop} : sto1 (.val (.int x) :: r) 0 v f = f (.val v :: r) := propext Iff.rfl
theorem sto1_r {x : Nat} {r : List Slot} {v : Value} {f : List Slot → Prop} : sto1 (.val (.ref x) :: r) 0 v f = f (.val v :: r) := propext Iff.rfl
theorem sto1_n {r : List Slot} {v : Value} {f : List Slot → Prop} : sto1 (.val .null :: r) 0 v f = f (.val v :: r) := propext Iff.rfl
theorem sto1_s {x : Slot} {r : List Slot} {k : Nat} {v : Value} {f : List Slot → Prop} : sto1 (x :: r) (k + 1) v f = sto1 r k v fun l => f (x :: l) := propext Iff.rfl
theorem sto2_u {r : List Slot} {v : Value} {f : List Slot → Prop} : sto2 (.unset :: .unset :: r) 0 v f = f (.val v :: .second :: r) := by simp [sto2, free1]
theorem sto2_l {x : Int64} {r : List Slot} {v : Value} {f : List Slot → Prop} : sto2 (.val (.long x) :: .second :: r) 0 v f = f (.val v :: .second :: r) := by simp [sto2]
theorem sto2_s {x : Slot} {r : List Slot} {k : Nat} {v : Value} {f : List Slot → Prop} : sto2 (x :: r) (k + 1) v f = sto2 r k v fun l => f (x :: l) := by simp [sto2]
theorem sto1_e {ls : List Slot} {k : Nat} {v : Value} {f : List Slot → Prop} (hv : v.category = 1) (h : sto1 ls k v f) : ∃ l', storeLocals ls.toArray k v = some l'.toArray ∧ f l' := by
  unfold sto1 at h
  split at h
  all_goals first
    | exact h.elim
    | (rename_i q
       refine ⟨_, ?_, h⟩
       rw [storeLocals_cat1 (by rw [List.getElem?_toArray]; exact q) hv (by first | exact trivial | rfl)]
       simp)
theorem free1_e {o : Option Slot} (h : free1 o = true) : ∃ x, o = some x ∧ (x = .unset ∨ ∃ w, x = .val w ∧ w.category = 1) := by
  unfold free1 at h
  split at h
  all_goals first
    | exact ⟨_, rfl, Or.inl rfl⟩
    | exact ⟨_, rfl, Or.inr ⟨_, rfl, rfl⟩⟩
    | cases h
theorem sto2_e {ls : List Slot} {k : Nat} {v : Value} {f : List Slot → Prop} (hv : v.category = 2) (h : sto2 ls k v f) : ∃ l', storeLocals ls.toArray k v = some l'.toArray ∧ f l' := by
  unfold sto2 at h
  split at h
  · rename_i w q
    obtain ⟨q1, h⟩ := h
    refine ⟨_, ?_, h⟩
    rw [Fl.storeLocals_cat2 (by rw [List.getElem?_toArray]; exact q) (by rw [List.getElem?_toArray]; exact q1) hv (Or.inr ⟨⟨_, rfl, rfl⟩, rfl⟩)]
    simp
  · rename_i o _
    obtain ⟨q, q1, h⟩ := h
    refine ⟨_, ?_, h⟩
    obtain ⟨x, q, hx⟩ := free1_e q
    obtain ⟨x1, q1, hx1⟩ := free1_e q1
    have px : Fl.Plain1 x := by rcases hx with rfl | ⟨w, rfl, hw⟩ <;> first | exact trivial | exact hw
    have px1 : Fl.Plain1 x1 := by rcases hx1 with rfl | ⟨w, rfl, hw⟩ <;> first | exact trivial | exact hw
    rw [Fl.storeLocals_cat2 (by rw [List.getElem?_toArray]; exact q) (by rw [List.getElem?_toArray]; exact q1) hv (Or.inl ⟨px, px1⟩)]
    simp
/-! the cells -/
def arrI (H : List Cel) (i : Nat) (f : FieldType → List Value → Prop) : Prop := match H[i]? with | some (.inl (ty, vs)) => f ty vs | _ => False
def arr (H : List Cel) (n a : Nat) (f : Nat → FieldType → List Value → Prop) : Prop := ∃ i, a = ad n i ∧ arrI H i (f i)
theorem arrI_z {ty : FieldType} {vs : List Value} {H : List Cel} {f : FieldType → List Value → Prop} : arrI (.inl (ty, vs) :: H) 0 f = f ty vs := propext Iff.rfl
theorem arrI_s {c : Cel} {H : List Cel} {i : Nat} {f : FieldType → List Value → Prop} : arrI (c :: H) (i + 1) f = arrI H i f := propext Iff.rfl
theorem arr_c {H : List Cel} {n i : Nat} {f : Nat → FieldType → List Value → Prop} : arr H n (ad n i) f = arrI H i (f i) :=
  propext ⟨fun ⟨j, e, h⟩ => by obtain rfl : i = j := by simp [ad] at e; exact e
                               exact h, fun h => ⟨i, rfl, h⟩⟩
theorem arr_e {H : List Cel} {n a : Nat} {f : Nat → FieldType → List Value → Prop} (h : arr H n a f) : ∃ i ty vs, a = ad n i ∧ H[i]? = some (.inl (ty, vs)) ∧ f i ty vs := by
  obtain ⟨i, e, h⟩ := h
  unfold arrI at h
  split at h
  · exact ⟨i, _, _, e, by assumption, h⟩
  · exact h.elim
def idxN (vs : List Value) (n : Nat) (f : Value → Prop) : Prop := match vs[n]? with | some v => f v | none => False
theorem idxN_z {v : Value} {vs : List Value} {f : Value → Prop} : idxN (v :: vs) 0 f = f v := propext Iff.rfl
theorem idxN_s {v : Value} {vs : List Value} {n : Nat} {f : Value → Prop} : idxN (v :: vs) (n + 1) f = idxN vs n f := propext Iff.rfl
theorem idxN_c {v : Value} {vs : List Value} {n : Nat} {f : Value → Prop} : idxN (v :: vs) n f = if n = 0 then f v else idxN vs (n - 1) f := by cases n <;> simp [idxN]
def idx (vs : List Value) (j : Int32) (f : Value → Prop) : Prop := if j < 0 then False else idxN vs j.toNatClampNeg f
theorem idx_c {vs : List Value} {j : Int32} {f : Value → Prop} : idx vs j f = if j < 0 then False else idxN vs j.toNatClampNeg f := propext Iff.rfl
theorem idx_e {vs : List Value} {j : Int32} {f : Value → Prop} (h : idx vs j f) : ¬ j < 0 ∧ ∃ v, vs[j.toNatClampNeg]? = some v ∧ f v := by
  unfold idx at h
  split at h
  · exact h.elim
  · rename_i h1
    unfold idxN at h
    split at h
    · exact ⟨h1, _, by assumption, h⟩
    · exact h.elim
/-- the list with its n-th place set -/
def setN (vs : List Value) (n : Nat) (v : Value) (f : List Value → Prop) : Prop := f (vs.set n v)
theorem setN_c {x v : Value} {vs : List Value} {n : Nat} {f : List Value → Prop} : setN (x :: vs) n v f = if n = 0 then f (v :: vs) else setN vs (n - 1) v fun l => f (x :: l) := by cases n <;> simp [setN]
def setL (vs : List Slot) (n : Nat) (v : Slot) (f : List Slot → Prop) : Prop := f (vs.set n v)
theorem setL_z {x v : Slot} {vs : List Slot} {f : List Slot → Prop} : setL (x :: vs) 0 v f = f (v :: vs) := propext Iff.rfl
theorem setL_s {x v : Slot} {vs : List Slot} {n : Nat} {f : List Slot → Prop} : setL (x :: vs) (n + 1) v f = setL vs n v fun l => f (x :: l) := propext Iff.rfl
def setH (H : List Cel) (n : Nat) (v : Cel) (f : List Cel → Prop) : Prop := f (H.set n v)
theorem setH_z {x v : Cel} {H : List Cel} {f : List Cel → Prop} : setH (x :: H) 0 v f = f (v :: H) := propext Iff.rfl
theorem setH_s {x v : Cel} {H : List Cel} {n : Nat} {f : List Cel → Prop} : setH (x :: H) (n + 1) v f = setH H n v fun l => f (x :: l) := propext Iff.rfl
def snoc (H : List Cel) (c : Cel) (f : List Cel → Prop) : Prop := f (H ++ [c])
theorem snoc_z {c : Cel} {f : List Cel → Prop} : snoc [] c f = f [c] := propext Iff.rfl
theorem snoc_s {x c : Cel} {H : List Cel} {f : List Cel → Prop} : snoc (x :: H) c f = snoc H c fun l => f (x :: l) := propext Iff.rfl
def onLen (H : List Cel) (f : Nat → Prop) : Prop := f H.length
theorem onLen_0 {f : Nat → Prop} : onLen [] f = f 0 := propext Iff.rfl
theorem onLen_1 {a : Cel} {f : Nat → Prop} : onLen [a] f = f 1 := propext Iff.rfl
theorem onLen_2 {a c : Cel} {f : Nat → Prop} : onLen [a, c] f = f 2 := propext Iff.rfl
theorem onLen_3 {a c d : Cel} {f : Nat → Prop} : onLen [a, c, d] f = f 3 := propext Iff.rfl
theorem onLen_4 {a c d e : Cel} {f : Nat → Prop} : onLen [a, c, d, e] f = f 4 := propext Iff.rfl
/-- a new array's values: n of them, all alike -/
def repN (n : Nat) (v : Value) (f : List Value → Prop) : Prop := f (List.replicate n v)
theorem repN_c {n : Nat} {v : Value} {f : List Value → Prop} : repN n v f = if n = 0 then f [] else repN (n - 1) v fun l => f (v :: l) := by cases n <;> simp [repN, List.replicate_succ]
def objI (H : List Cel) (i : Nat) (f : String → List (String × String × Value) → Prop) : Prop := match H[i]? with | some (.inr (C, fs)) => f C fs | _ => False
def obj (H : List Cel) (n a : Nat) (f : Nat → String → List (String × String × Value) → Prop) : Prop := ∃ i, a = ad n i ∧ objI H i (f i)
theorem objI_z {C : String} {fs : List (String × String × Value)} {H : List Cel} {f : String → List (String × String × Value) → Prop} : objI (.inr (C, fs) :: H) 0 f = f C fs := propext Iff.rfl
theorem objI_s {c : Cel} {H : List Cel} {i : Nat} {f : String → List (String × String × Value) → Prop} : objI (c :: H) (i + 1) f = objI H i f := propext Iff.rfl
theorem obj_c {H : List Cel} {n i : Nat} {f : Nat → String → List (String × String × Value) → Prop} : obj H n (ad n i) f = objI H i (f i) :=
  propext ⟨fun ⟨j, e, h⟩ => by obtain rfl : i = j := by simp [ad] at e; exact e
                               exact h, fun h => ⟨i, rfl, h⟩⟩
theorem obj_e {H : List Cel} {n a : Nat} {f : Nat → String → List (String × String × Value) → Prop} (h : obj H n a f) : ∃ i C fs, a = ad n i ∧ H[i]? = some (.inr (C, fs)) ∧ f i C fs := by
  obtain ⟨i, e, h⟩ := h
  unfold objI at h
  split at h
  · exact ⟨i, _, _, e, by assumption, h⟩
  · exact h.elim
theorem ifF_e {c : Prop} [Decidable c] {h : Prop} (q : if c then h else False) : c ∧ h := by split at q <;> first | exact ⟨by assumption, q⟩ | exact q.elim
/-- a branch's target -/
def tgt (pc : Nat) (o : Int) (f : Nat → Prop) : Prop := f ((pc : Int) + o).toNat
def look {α : Type} : List (Nat × α) → Nat → Option α
  | [], _ => none
  | (k, v) :: r, n => if n = k then some v else look r n
theorem look_z {α : Type} {k : Nat} {v : α} {r : List (Nat × α)} : look ((k, v) :: r) k = some v := by simp [look]
theorem look_s {α : Type} {k n : Nat} {v : α} {r : List (Nat × α)} (h : (n = k) = False) : look ((k, v) :: r) n = look r n := by simp [look, h]
theorem look_mem {α : Type} {L : List (Nat × α)} {n : Nat} {v : α} (h : look L n = some v) : (n, v) ∈ L := by
  induction L with
  | nil => cases h
  | cons x r ih =>
    obtain ⟨k, w⟩ := x
    unfold look at h
    split at h
    · rename_i e; cases h; subst e; exact List.mem_cons_self ..
    · exact List.mem_cons_of_mem _ (ih h)
def onSome {α : Type} (o : Option α) (f : α → Prop) : Prop := match o with | some v => f v | none => False
theorem onSome_c {α : Type} {v : α} {f : α → Prop} : onSome (some v) f = f v := propext Iff.rfl
theorem onSome_e {α : Type} {o : Option α} {f : α → Prop} (h : onSome o f) : ∃ v, o = some v ∧ f v := by unfold onSome at h; split at h <;> first | exact ⟨_, rfl, h⟩ | exact h.elim
/-- Java's int remainder, as the model spells it -/
def remI (x y : Int32) : Int32 := x - (x / y) * y
def remJ (x y : Int64) : Int64 := x - (x / y) * y
def retv (t : FieldType) (x : Int32) : Int32 := nar t x
def ilen : Instr → Nat
  | .aload _ | .astore _ | .iload _ | .istore _ | .lload _ | .lstore _ | .bipush _ | .ldc _ | .newarray _ => 2
  | .sipush _ | .ldc2_w _ | .ldc_w _ | .iinc _ _ | .goto _ | .ifCond _ _ | .if_icmp _ _ | .ifnull _ | .ifnonnull _ | .new _ | .getfield _ | .putfield _ | .invokestatic _ | .invokespecial _ | .invokevirtual _ | .checkcast _ | .anewarray _ => 3
  | _ => 1
def off : Instr → Int
  | .goto o | .ifCond _ o | .if_icmp _ o | .ifnull o | .ifnonnull o => o
  | _ => 0
def at1 (code : ByteArray) (pc : Nat) : Option Instr := match decode code pc with
  | .ok (i, n) => if n = ilen i ∧ 0 ≤ (pc : Int) + off i then some i else none
  | _ => none
theorem at1_of {code : ByteArray} {pc n : Nat} {i : Instr} (h : decode code pc = .ok (i, n)) (hn : n = ilen i) (ho : 0 ≤ (pc : Int) + off i) : at1 code pc = some i := by
  simp [at1, h, hn, ho]
theorem at1_o {code : ByteArray} {pc : Nat} {i : Instr} (h : at1 code pc = some i) : decode code pc = .ok (i, ilen i) ∧ 0 ≤ (pc : Int) + off i := by
  unfold at1 at h
  split at h
  · rename_i j n q
    split at h
    · rename_i e; cases h; rw [q, e.1]; exact ⟨rfl, e.2⟩
    · cases h
  · cases h
theorem at1_e {code : ByteArray} {pc : Nat} {i : Instr} (h : at1 code pc = some i) : decode code pc = .ok (i, ilen i) := (at1_o h).1

def fget (fs : List (String × String × Value)) (n d : String) : Option Value := match fs with
  | [] => none
  | (n', d', v) :: r => if n = n' ∧ d = d' then some v else fget r n d
theorem fget_mem {fs : List (String × String × Value)} {n d : String} {v : Value} (h : fget fs n d = some v) : (n, d, v) ∈ fs := by
  induction fs with
  | nil => cases h
  | cons x r ih =>
    obtain ⟨n', d', w⟩ := x
    unfold fget at h
    split at h
    · rename_i e; cases h; obtain ⟨rfl, rfl⟩ := e; exact List.mem_cons_self ..
    · exact List.mem_cons_of_mem _ (ih h)
def fgt (fs : List (String × String × Value)) (n d : String) (f : Value → Prop) : Prop := onSome (fget fs n d) f
theorem fgt_c {n n' d d' : String} {v : Value} {r : List (String × String × Value)} {f : Value → Prop} : fgt ((n', d', v) :: r) n d f = if n = n' ∧ d = d' then f v else fgt r n d f := by
  unfold fgt
  rw [fget]
  split <;> rfl
theorem nar_bb {x : Int32} : nar .byte (nar .byte x) = nar .byte x := by simp [nar]
theorem nar_cc {x : Int32} : nar .char (nar .char x) = nar .char x := by simp only [nar, UInt32.toUInt32_toInt32, UInt16.toUInt16_toUInt32]
theorem nar_b0 : nar .boolean 0 = 0 := by decide
theorem nar_b1 : nar .boolean 1 = 1 := by decide
theorem i32_nl {x y : Int32} (h : x < y) : (x = y) = False := eq_false fun e => by subst e; exact Int32.lt_irrefl h
theorem i32_ng {x y : Int32} (h : y < x) : (x = y) = False := eq_false fun e => by subst e; exact Int32.lt_irrefl h
theorem i64_nl {x y : Int64} (h : x < y) : (x = y) = False := eq_false fun e => by subst e; exact Int64.lt_irrefl h
theorem i64_ng {x y : Int64} (h : y < x) : (x = y) = False := eq_false fun e => by subst e; exact Int64.lt_irrefl h
theorem cmpL_lt {x y : Int64} : (XT.cmpL x y < 0) = (x < y) := by
  have h1 := @Int64.lt_iff_toInt_lt x y
  have h2 := @Int64.lt_iff_toInt_lt y x
  have h3 : x = y ↔ x.toInt = y.toInt := Int64.toInt_inj.symm
  unfold XT.cmpL
  split
  · rw [show ((1 : Int32) < 0) = False by decide]; simp only [h1, h2, h3] at *; exact propext ⟨False.elim, fun _ => by omega⟩
  · split
    · rw [show ((0 : Int32) < 0) = False by decide]; simp only [h1, h2, h3] at *; exact propext ⟨False.elim, fun _ => by omega⟩
    · rw [show ((-1 : Int32) < 0) = True by decide]; simp only [h1, h2, h3] at *; exact propext ⟨fun _ => by omega, fun _ => trivial⟩
theorem cmpL_gt {x y : Int64} : (0 < XT.cmpL x y) = (y < x) := by
  have h1 := @Int64.lt_iff_toInt_lt x y
  have h2 := @Int64.lt_iff_toInt_lt y x
  have h3 : x = y ↔ x.toInt = y.toInt := Int64.toInt_inj.symm
  unfold XT.cmpL
  split
  · rw [show ((0 : Int32) < 1) = True by decide]; simp only [h1, h2, h3] at *; exact propext ⟨fun _ => by omega, fun _ => trivial⟩
  · split
    · rw [show ((0 : Int32) < 0) = False by decide]; simp only [h1, h2, h3] at *; exact propext ⟨False.elim, fun _ => by omega⟩
    · rw [show ((0 : Int32) < -1) = False by decide]; simp only [h1, h2, h3] at *; exact propext ⟨False.elim, fun _ => by omega⟩
theorem cmpL_eq {x y : Int64} : (XT.cmpL x y = 0) = (x = y) := by
  have h1 := @Int64.lt_iff_toInt_lt x y
  have h2 := @Int64.lt_iff_toInt_lt y x
  have h3 : x = y ↔ x.toInt = y.toInt := Int64.toInt_inj.symm
  unfold XT.cmpL
  split
  · rw [show ((1 : Int32) = 0) = False by decide]; simp only [h1, h2, h3] at *; exact propext ⟨False.elim, fun _ => by omega⟩
  · split
    · rename_i q; rw [show ((0 : Int32) = 0) = True by decide]; exact propext ⟨fun _ => q, fun _ => trivial⟩
    · rename_i q; rw [show ((-1 : Int32) = 0) = False by decide]; exact propext ⟨False.elim, fun z => absurd z q⟩
def fset (fs : List (String × String × Value)) (n : String) (v : Value) : List (String × String × Value) := match fs with
  | [] => []
  | (n', d', w) :: r => if n' = n then (n', d', v) :: fset r n v else (n', d', w) :: fset r n v
theorem fset_mem {fs : List (String × String × Value)} {n : String} {v : Value} {f : String × String × Value} (h : f ∈ fset fs n v) : (f.1 = n ∧ f.2.2 = v ∧ ∃ w, (f.1, f.2.1, w) ∈ fs) ∨ (f.1 ≠ n ∧ f ∈ fs) := by
  induction fs with
  | nil => cases h
  | cons x r ih =>
    obtain ⟨n', d', w⟩ := x
    unfold fset at h
    split at h
    · rename_i e
      rcases List.mem_cons.mp h with rfl | h
      · exact Or.inl ⟨e, rfl, w, List.mem_cons_self ..⟩
      · rcases ih h with ⟨q1, q2, w', q3⟩ | ⟨q1, q2⟩
        · exact Or.inl ⟨q1, q2, w', List.mem_cons_of_mem _ q3⟩
        · exact Or.inr ⟨q1, List.mem_cons_of_mem _ q2⟩
    · rename_i e
      rcases List.mem_cons.mp h with rfl | h
      · exact Or.inr ⟨e, List.mem_cons_self ..⟩
      · rcases ih h with ⟨q1, q2, w', q3⟩ | ⟨q1, q2⟩
        · exact Or.inl ⟨q1, q2, w', List.mem_cons_of_mem _ q3⟩
        · exact Or.inr ⟨q1, List.mem_cons_of_mem _ q2⟩
def fst (fs : List (String × String × Value)) (n : String) (v : Value) (f : List (String × String × Value) → Prop) : Prop := f (fset fs n v)
theorem fst_n {n : String} {v : Value} {f : List (String × String × Value) → Prop} : fst [] n v f = f [] := propext Iff.rfl
theorem fst_c {n n' d : String} {v w : Value} {r : List (String × String × Value)} {f : List (String × String × Value) → Prop} : fst ((n', d, w) :: r) n v f = if n' = n then fst r n v fun l => f ((n', d, v) :: l) else fst r n v fun l => f ((n', d, w) :: l) := by
  unfold fst
  rw [fset]
  split <;> rfl
theorem LaidAll.set {Z : State} {C n : String} {v : Value} {fs : List (String × String × Value)} (h : LaidAll Z C fs) : LaidAll Z C (fset fs n v) := by
  obtain ⟨a0, h⟩ := h
  have key : ∀ f ∈ fset fs n v, ∃ w, (f.1, f.2.1, w) ∈ fs := fun f hf => by
    rcases fset_mem hf with ⟨-, -, w, q⟩ | ⟨-, q⟩
    · exact ⟨w, q⟩
    · exact ⟨f.2.2, q⟩
  refine ⟨a0, fun f hf => ?_⟩
  obtain ⟨w, q⟩ := key f hf
  obtain ⟨h1, h2, h3⟩ := h _ q
  refine ⟨h1, h2, fun g hg e => ?_⟩
  obtain ⟨w', q'⟩ := key g hg
  exact h3 (g.1, g.2.1, w') q' e
section Objs
variable {code : ByteArray} {own nm : String} {maxL : Nat} {ret : Option FieldType} {R : Room} {W : List Jvm.Cond} {l : Launch} {Z : State} {b : Heap} {rc rs : Nat} {K : Option Value → List Cel → Prop}
variable {pc : Nat} {ls : List Slot} {st : List Value} {H : List Cel} {cN sN : Nat}
/-- what the sheet's words say of a class that is made: its fields at their first values -/
def NewOk (W : List Jvm.Cond) (own : String) (idx : Nat) (C : String) (n : Nat) (fs : List (String × String × Value)) : Prop :=
  Jvm.Cond.classLink own idx C ∈ W ∧ Jvm.Cond.instantiable C n ∈ W ∧ Jvm.Cond.initialized C ∈ W ∧ ∀ f ∈ fs, (Jvm.Cond.lays C C f.1 f.2.1 ∈ W ∨ Jvm.Cond.laysFinal C C f.1 f.2.1 ∈ W) ∧ (∃ ty, parseFieldDescriptor f.2.1 = some ty ∧ f.2.2 = defaultValue ty) ∧ ∀ f' ∈ fs, f'.1 = f.1 → f'.2.1 = f.2.1
theorem G.new {idx n : Nat} {C : String} {fs : List (String × String × Value)} (hN : NewOk W own idx C n fs)
    (hd : decode code pc = .ok (.new idx, 3)) (hc1 : cN + 1 ≤ R.cells) (hs1 : sN + n ≤ R.slots)
    (k : G code own nm maxL ret R W l Z b rc rs K (pc + 3) ls (.ref (ad b.size H.length) :: st) (H ++ [.inr (C, fs)]) (cN + 1) (sN + n)) : G code own nm maxL ret R W l Z b rc rs K pc ls st H cN sN := by
  obtain ⟨w1, w2, w3, hfs⟩ := hN
  refine G.move (fun p e s m args below meth c T locs a0 hx hc hm hn hZ ho hw X hF hR => ?_) k
  obtain ⟨vm', cC, kC, h1, h2, h3, h4, X', sp⟩ := X.newCold hx ho (mv hZ (hw _ w1)) (mv hZ (hw _ w2)) (mv hZ (hw _ w3)) (g := mkF m pc ls.toArray st) rfl (hb hc hd) hc1 hs1
  have ea : ad b.size H.length = T.heap.size := by rw [hR.1]; rfl
  rw [hZ.alike.findClass] at h1
  obtain ⟨kZ, z1, -⟩ := Vm.findClass_spec h1
  obtain ⟨k', z2, z3⟩ := hZ.alike.2.2 _ _ z1
  cases h2.symm.trans z2
  have ei : kC.instanceTypes = kZ.instanceTypes := by rw [z3]
  have hN : (T.heap.push { cls := cC, slots := kC.instanceTypes.map defaultValue, vm := .none })[T.heap.size]? = some { cls := cC, slots := kC.instanceTypes.map defaultValue, vm := .none } := by simp
  refine ⟨_, _, X', hF, hR.push (h' := T.heap.push { cls := cC, slots := kC.instanceTypes.map defaultValue, vm := .none }) ⟨by simp, fun a c h => ?_⟩ (by simp) ⟨⟨_, kZ, hN, h1, z1, rfl, fun _ => by simp [ei]⟩, fun f hf => ?_, a0, fun f hf => ?_⟩, by rw [ea]; exact sp⟩
  · rw [Array.getElem?_push_lt (Array.getElem?_eq_some_iff.mp h).1]; exact (Array.getElem?_eq_getElem _).symm.trans h
  · obtain ⟨L, ⟨ty, ht, hv⟩, -⟩ := hfs f hf
    obtain ⟨c1, k1, cf, kf, i, fl, a1, a2, a3, a4, a5, a6, -⟩ := Laid.spec (a0 := a0) (L.imp (hw _) (hw _))
    cases h1.symm.trans a1
    cases z1.symm.trans a2
    rw [hv]
    exact ⟨_, cf, kf, i, fl, hN, a3, a4, by simp, rfl, a5, by simp [ei, a6, (State.fieldFound?_type a3 ht).2]⟩
  · obtain ⟨L, ⟨ty, ht, hv⟩, u⟩ := hfs f hf
    exact ⟨L.imp (hw _) (hw _), ⟨ty, ht⟩, u⟩
/-- what the sheet's words say of a field that is written here -/
def PutOk (W : List Jvm.Cond) (own nm : String) (idx : Nat) (C n d : String) (ty : FieldType) : Prop :=
  Jvm.Cond.fieldLink own idx C n d ∈ W ∧ (Jvm.Cond.lays C C n d ∈ W ∨ (Jvm.Cond.laysFinal C C n d ∈ W ∧ own = C ∧ nm = "<init>")) ∧ (∃ kk, Jvm.Cond.instantiable C kk ∈ W) ∧ parseFieldDescriptor d = some ty
theorem G.putf {idx i : Nat} {C n d : String} {ty : FieldType} {v v' old : Value} {fs : List (String × String × Value)} {rest : List Value} (hP : PutOk W own nm idx C n d ty) (hn : narrow ty v = v') (hft : fits ty v' = true)
    (hd : decode code pc = .ok (.putfield idx, 3)) (hi : H[i]? = some (.inr (C, fs))) (hg : fget fs n d = some old)
    (k : G code own nm maxL ret R W l Z b rc rs K (pc + 3) ls rest (H.set i (.inr (C, fset fs n v'))) cN sN) : G code own nm maxL ret R W l Z b rc rs K pc ls (v :: .ref (ad b.size i) :: rest) H cN sN := by
  obtain ⟨w1, wl, ⟨kk, wi⟩, hty⟩ := hP
  refine G.move (fun p e s m args below meth c T locs a0 hx hc hm hnm hZ ho hw X hF hR => ?_) k
  obtain ⟨E, F, LA⟩ := hR.2 _ _ hi
  obtain ⟨T', h', X', e2, Wt, sp⟩ := putFN X hx hZ ho (hw _ w1) Via.refl rfl (F _ (fget_mem hg)) E (wl.imp (hw _) fun q => ⟨hw _ q.1, q.2.1, hnm.trans q.2.2⟩) (hw _ wi) hty hn hft (g := mkF m pc ls.toArray (v :: .ref (ad b.size i) :: rest)) rfl rfl (hb hc hd)
  refine ⟨T', _, X', hF.app (fun y hy => by cases List.mem_singleton.mp hy; exact Nat.le_add_right _ _), ?_, sp⟩
  rw [e2]
  refine hR.set Wt ⟨E.wr Wt, fun f hf => ?_, LA.set⟩
  obtain ⟨a1, hall⟩ := LA
  obtain ⟨L2, -, un⟩ := hall _ (fget_mem hg)
  rcases fset_mem hf with ⟨q1, q2, w, q3⟩ | ⟨q1, q2⟩
  · have qd : f.2.1 = d := un (f.1, f.2.1, w) q3 q1
    have := F _ q3
    rw [q1, q2, qd]
    simp only [q1, qd] at this
    exact this.same Wt
  · obtain ⟨L1, ⟨ty1, t1⟩, -⟩ := hall _ q2
    exact (F _ q2).other Wt (Or.inr (slot_ne (a0 := a1) (C := C) L1 L2 q1 t1 hty))
end Objs
section New
variable {p : Program} {l : Launch} {e : Env} {R : Room} {s : State} {m : MethodId} {args : Array Value} {below : List Frame} {meth : Method} {c : Code} {T : State} {locs : List Loc} {cells slots : Nat}
theorem retI (X : Stand p l e R s m args below meth c T locs cells slots) (hx : p.tables.exec = Jvm.exec) {pc : Nat} {Ls : Array Slot} {z : Int32} {rest : List Value} (hret : meth.sig.returnType = some .int) (hd : decode c.code pc = .ok (.ireturn, 1)) {fs : List Frame}
    (hl : ∀ (f : JFrame) (acts : List Action), f.method = m → f.locked = none → f.entered = [] → (doReturn e (T.setTop f) acts (some (.int z))).1 = T.setFrames fs) : Steps p.tables e below (T.setTop (mkF m pc Ls (.int z :: rest))) (T.setFrames fs) :=
  retOut X hx hret rfl (Or.inl ⟨rfl, Or.inl rfl, _, rfl⟩) hd hl
theorem newA_step {Z : State} {b : Heap} {a0 : Array Value} {H : List Cel} {t : ArrayType} {pc : Nat} {ls : List Slot} {n : Int32} {r : List Value} (X : Stand p l e R s m args below meth c T locs cells slots) (hx : p.tables.exec = Jvm.exec) (hZ : Z.Warmed39 s.vm) (w : (Jvm.Cond.arrayClass (newarray.typeOf t)).before a0 Z = true) (hF : Fr b.size locs) (hR : Rep Z b T.heap H)
    (hd : decode c.code pc = .ok (.newarray t, 2)) (hn : ¬ n < 0) (hcap : n.toNatClampNeg ≤ 65536) (hc : cells + 1 ≤ R.cells) (hs : slots + n.toNatClampNeg ≤ R.slots) :
    ∃ T' locs', Stand p l e R s m args below meth c T' locs' (cells + 1) (slots + n.toNatClampNeg) ∧ Fr b.size locs' ∧ Rep Z b T'.heap (H ++ [.inl (newarray.typeOf t, List.replicate n.toNatClampNeg (defaultValue (newarray.typeOf t)))]) ∧
      ∀ target, Steps p.tables e below (T'.setTop (mkF m (pc + 2) ls.toArray (.ref (ad b.size H.length) :: r))) target → Steps p.tables e below (T.setTop (mkF m pc ls.toArray (.int n :: r))) target := by
  have hcb : componentBytes (newarray.typeOf t) ≤ 8 := by cases t <;> decide
  obtain ⟨cA, kA, comp, h1, h2, h3, X', sp⟩ := X.newarrayPrim hx (mvA hZ w) (g := mkF m pc ls.toArray (.int n :: r)) rfl hd rfl hn (Nat.le_trans (Nat.mul_le_mul hcap hcb) (by decide)) hc hs
  rw [hZ.alike.findClass] at h1
  obtain ⟨kZ, z1, -⟩ := Vm.findClass_spec h1
  obtain ⟨k', z2, z3⟩ := hZ.alike.2.2 _ _ z1
  cases h2.symm.trans z2
  have ea : ad b.size H.length = T.heap.size := by rw [hR.1]; rfl
  refine ⟨_, _, X', hF, hR.push (h' := T.heap.push _) ⟨by simp, fun a c h => ?_⟩ (by simp) ⟨_, ⟨by simp; rfl, ⟨by simp, kZ, z1, comp, by rw [← h3, z3]⟩, by simp⟩, by simp⟩, by rw [ea]; exact sp⟩
  rw [Array.getElem?_push_lt (Array.getElem?_eq_some_iff.mp h).1]; exact (Array.getElem?_eq_getElem _).symm.trans h
end New
set_option maxHeartbeats 4000000 in
def W1 (CI : List (Nat × Int32)) (CL : List (Nat × Int64)) (FL : List (Nat × String × String × String)) (AL : List FieldType) (PL : List (Nat × String × String × String × FieldType)) (NL : List (Nat × String × Nat × List (String × String × Value))) (ret : Option FieldType) (R : Room) (n0 rc rs : Nat) (K : Option Value → List Cel → Prop) (g : Cont) (i : Instr) (pc : Nat) (ls : List Slot) (st : List Value) (H : List Cel) (cN sN : Nat) (k : Cont) : Prop := match i with
  | .iload_n j => ldI ls j.val fun v => k (pc + 1) ls (.int v :: st) H cN sN
  | .iload j => ldI ls j fun v => k (pc + 2) ls (.int v :: st) H cN sN
  | .lload_n j => ldJ ls j.val fun v => k (pc + 1) ls (.long v :: st) H cN sN
  | .lload j => ldJ ls j fun v => k (pc + 2) ls (.long v :: st) H cN sN
  | .aload_n j => ldA ls j.val fun v => k (pc + 1) ls (v :: st) H cN sN
  | .aload j => ldA ls j fun v => k (pc + 2) ls (v :: st) H cN sN
  | .istore_n j => popI st fun v r => sto1 ls j.val (.int v) fun l' => k (pc + 1) l' r H cN sN
  | .istore j => popI st fun v r => sto1 ls j (.int v) fun l' => k (pc + 2) l' r H cN sN
  | .lstore_n j => popJ st fun v r => sto2 ls j.val (.long v) fun l' => k (pc + 1) l' r H cN sN
  | .lstore j => popJ st fun v r => sto2 ls j (.long v) fun l' => k (pc + 2) l' r H cN sN
  | .astore_n j => popA st fun v r => sto1 ls j.val v fun l' => k (pc + 1) l' r H cN sN
  | .astore j => popA st fun v r => sto1 ls j v fun l' => k (pc + 2) l' r H cN sN
  | .iconst i => k (pc + 1) ls (.int (Int32.ofInt i) :: st) H cN sN
  | .lconst i => k (pc + 1) ls (.long (Int64.ofNat i) :: st) H cN sN
  | .bipush i => k (pc + 2) ls (.int (Int8.ofInt i).toInt32 :: st) H cN sN
  | .sipush i => k (pc + 3) ls (.int (Int16.ofInt i).toInt32 :: st) H cN sN
  | .aconst_null => k (pc + 1) ls (.null :: st) H cN sN
  | .ldc i => onSome (look CI i) fun v => k (pc + 2) ls (.int v :: st) H cN sN
  | .ldc2_w i => onSome (look CL i) fun v => k (pc + 3) ls (.long v :: st) H cN sN
  | .iadd => popI st fun y r => popI r fun x r => k (pc + 1) ls (.int (x + y) :: r) H cN sN
  | .isub => popI st fun y r => popI r fun x r => k (pc + 1) ls (.int (x - y) :: r) H cN sN
  | .imul => popI st fun y r => popI r fun x r => k (pc + 1) ls (.int (x * y) :: r) H cN sN
  | .iand => popI st fun y r => popI r fun x r => k (pc + 1) ls (.int (x &&& y) :: r) H cN sN
  | .ior => popI st fun y r => popI r fun x r => k (pc + 1) ls (.int (x ||| y) :: r) H cN sN
  | .ixor => popI st fun y r => popI r fun x r => k (pc + 1) ls (.int (x ^^^ y) :: r) H cN sN
  | .ishl => popI st fun y r => popI r fun x r => k (pc + 1) ls (.int (x <<< (y &&& 31)) :: r) H cN sN
  | .ishr => popI st fun y r => popI r fun x r => k (pc + 1) ls (.int (x >>> (y &&& 31)) :: r) H cN sN
  | .iushr => popI st fun y r => popI r fun x r => k (pc + 1) ls (.int (XT.ushr x y) :: r) H cN sN
  | .idiv => popI st fun y r => popI r fun x r => y ≠ 0 ∧ k (pc + 1) ls (.int (x / y) :: r) H cN sN
  | .irem => popI st fun y r => popI r fun x r => y ≠ 0 ∧ k (pc + 1) ls (.int (remI x y) :: r) H cN sN
  | .ladd => popJ st fun y r => popJ r fun x r => k (pc + 1) ls (.long (x + y) :: r) H cN sN
  | .lsub => popJ st fun y r => popJ r fun x r => k (pc + 1) ls (.long (x - y) :: r) H cN sN
  | .lmul => popJ st fun y r => popJ r fun x r => k (pc + 1) ls (.long (x * y) :: r) H cN sN
  | .land => popJ st fun y r => popJ r fun x r => k (pc + 1) ls (.long (x &&& y) :: r) H cN sN
  | .lor => popJ st fun y r => popJ r fun x r => k (pc + 1) ls (.long (x ||| y) :: r) H cN sN
  | .lxor => popJ st fun y r => popJ r fun x r => k (pc + 1) ls (.long (x ^^^ y) :: r) H cN sN
  | .ldiv => popJ st fun y r => popJ r fun x r => y ≠ 0 ∧ k (pc + 1) ls (.long (x / y) :: r) H cN sN
  | .lrem => popJ st fun y r => popJ r fun x r => y ≠ 0 ∧ k (pc + 1) ls (.long (remJ x y) :: r) H cN sN
  | .lshl => popI st fun y r => popJ r fun x r => k (pc + 1) ls (.long (x <<< (y.toInt64 &&& 63)) :: r) H cN sN
  | .lshr => popI st fun y r => popJ r fun x r => k (pc + 1) ls (.long (x >>> (y.toInt64 &&& 63)) :: r) H cN sN
  | .lushr => popI st fun y r => popJ r fun x r => k (pc + 1) ls (.long (XT.ushrL x y) :: r) H cN sN
  | .lcmp => popJ st fun y r => popJ r fun x r => k (pc + 1) ls (.int (XT.cmpL x y) :: r) H cN sN
  | .i2l => popI st fun x r => k (pc + 1) ls (.long (x.toInt64) :: r) H cN sN
  | .l2i => popJ st fun x r => k (pc + 1) ls (.int (x.toInt32) :: r) H cN sN
  | .i2b => popI st fun x r => k (pc + 1) ls (.int (nar .byte x) :: r) H cN sN
  | .i2c => popI st fun x r => k (pc + 1) ls (.int (nar .char x) :: r) H cN sN
  | .i2s => popI st fun x r => k (pc + 1) ls (.int (nar .short x) :: r) H cN sN
  | .ineg => popI st fun x r => k (pc + 1) ls (.int (-x) :: r) H cN sN
  | .dup => pop1 st fun x r => k (pc + 1) ls (x :: x :: r) H cN sN
  | .pop => pop1 st fun x r => k (pc + 1) ls r H cN sN
  | .dup_x1 => pop1 st fun x r => pop1 r fun y r => k (pc + 1) ls (x :: y :: x :: r) H cN sN
  | .iinc j i => ldI ls j fun v => setL ls j (.val (.int (v + Int32.ofInt i))) fun l' => k (pc + 3) l' st H cN sN
  | .goto o => tgt pc o fun t => k (t) ls st H cN sN
  | .ifCond .eq o => popI st fun x r => if x = 0 then (tgt pc o fun t => k (t) ls r H cN sN) else (k (pc + 3) ls r H cN sN)
  | .ifCond .ne o => popI st fun x r => if x = 0 then (k (pc + 3) ls r H cN sN) else (tgt pc o fun t => k (t) ls r H cN sN)
  | .ifCond .lt o => popI st fun x r => if x < 0 then (tgt pc o fun t => k (t) ls r H cN sN) else (k (pc + 3) ls r H cN sN)
  | .ifCond .ge o => popI st fun x r => if x < 0 then (k (pc + 3) ls r H cN sN) else (tgt pc o fun t => k (t) ls r H cN sN)
  | .ifCond .gt o => popI st fun x r => if 0 < x then (tgt pc o fun t => k (t) ls r H cN sN) else (k (pc + 3) ls r H cN sN)
  | .ifCond .le o => popI st fun x r => if 0 < x then (k (pc + 3) ls r H cN sN) else (tgt pc o fun t => k (t) ls r H cN sN)
  | .if_icmp .eq o => popI st fun y r => popI r fun x r => if x = y then (tgt pc o fun t => k (t) ls r H cN sN) else (k (pc + 3) ls r H cN sN)
  | .if_icmp .ne o => popI st fun y r => popI r fun x r => if x = y then (k (pc + 3) ls r H cN sN) else (tgt pc o fun t => k (t) ls r H cN sN)
  | .if_icmp .lt o => popI st fun y r => popI r fun x r => if x < y then (tgt pc o fun t => k (t) ls r H cN sN) else (k (pc + 3) ls r H cN sN)
  | .if_icmp .ge o => popI st fun y r => popI r fun x r => if x < y then (k (pc + 3) ls r H cN sN) else (tgt pc o fun t => k (t) ls r H cN sN)
  | .if_icmp .gt o => popI st fun y r => popI r fun x r => if y < x then (tgt pc o fun t => k (t) ls r H cN sN) else (k (pc + 3) ls r H cN sN)
  | .if_icmp .le o => popI st fun y r => popI r fun x r => if y < x then (k (pc + 3) ls r H cN sN) else (tgt pc o fun t => k (t) ls r H cN sN)
  | .ifnull o => match st with | .null :: r => tgt pc o fun t => k (t) ls r H cN sN | .ref _ :: r => k (pc + 3) ls r H cN sN | _ => False
  | .ifnonnull o => match st with | .null :: r => k (pc + 3) ls r H cN sN | .ref _ :: r => tgt pc o fun t => k (t) ls r H cN sN | _ => False
  | .arraylength => popR st fun a r => arr H n0 a fun i ty vs => k (pc + 1) ls (.int (Int32.ofNat vs.length) :: r) H cN sN
  | .baload => popI st fun j r => popR r fun a r => arr H n0 a fun i ty vs => if ty = .byte then idx vs j fun v => k (pc + 1) ls (v :: r) H cN sN else False
  | .caload => popI st fun j r => popR r fun a r => arr H n0 a fun i ty vs => if ty = .char then idx vs j fun v => k (pc + 1) ls (v :: r) H cN sN else False
  | .iaload => popI st fun j r => popR r fun a r => arr H n0 a fun i ty vs => if ty = .int then idx vs j fun v => k (pc + 1) ls (v :: r) H cN sN else False
  | .laload => popI st fun j r => popR r fun a r => arr H n0 a fun i ty vs => if ty = .long then idx vs j fun v => k (pc + 1) ls (v :: r) H cN sN else False
  | .bastore => popI st fun x r => popI r fun j r => popR r fun a r => arr H n0 a fun i ty vs => if ty = .byte then idx vs j fun _ => setN vs j.toNatClampNeg (.int (nar .byte x)) fun vs' => setH H i (.inl (.byte, vs')) fun H' => k (pc + 1) ls r H' cN sN else False
  | .castore => popI st fun x r => popI r fun j r => popR r fun a r => arr H n0 a fun i ty vs => if ty = .char then idx vs j fun _ => setN vs j.toNatClampNeg (.int (nar .char x)) fun vs' => setH H i (.inl (.char, vs')) fun H' => k (pc + 1) ls r H' cN sN else False
  | .iastore => popI st fun x r => popI r fun j r => popR r fun a r => arr H n0 a fun i ty vs => if ty = .int then idx vs j fun _ => setN vs j.toNatClampNeg (.int x) fun vs' => setH H i (.inl (.int, vs')) fun H' => k (pc + 1) ls r H' cN sN else False
  | .lastore => popJ st fun x r => popI r fun j r => popR r fun a r => arr H n0 a fun i ty vs => if ty = .long then idx vs j fun _ => setN vs j.toNatClampNeg (.long x) fun vs' => setH H i (.inl (.long, vs')) fun H' => k (pc + 1) ls r H' cN sN else False
  | .newarray t => popI st fun n r => if ¬ n < 0 ∧ newarray.typeOf t ∈ AL ∧ n.toNatClampNeg ≤ 65536 ∧ cN + 1 ≤ R.cells ∧ sN + n.toNatClampNeg ≤ R.slots then onLen H fun i => repN n.toNatClampNeg (defaultValue (newarray.typeOf t)) fun vs => snoc H (.inl (newarray.typeOf t, vs)) fun H' => k (pc + 2) ls (.ref (ad n0 i) :: r) H' (cN + 1) (sN + n.toNatClampNeg) else False
  | .ireturn => popI st fun x r => if cN ≤ rc ∧ sN ≤ rs then (match ret with | some .int => K (some (.int x)) H | some .boolean => K (some (.int (nar .boolean x))) H | some .byte => K (some (.int (nar .byte x))) H | some .char => K (some (.int (nar .char x))) H | some .short => K (some (.int (nar .short x))) H | _ => False) else False
  | .lreturn => popJ st fun x r => if cN ≤ rc ∧ sN ≤ rs ∧ r = [] ∧ ret = some .long then K (some (.long x)) H else False
  | .areturn => popR st fun x r => if cN ≤ rc ∧ sN ≤ rs ∧ ret = some (.array .byte) then K (some (.ref x)) H else False
  | .return_ => if cN ≤ rc ∧ sN ≤ rs ∧ ret = none ∧ st = [] then K none H else False
  | .getfield j => popR st fun a r => onSome (look FL j) fun q => obj H n0 a fun i C fs => if C = q.1 then fgt fs q.2.1 q.2.2 fun v => k (pc + 3) ls (v :: r) H cN sN else False
  | .new j => onSome (look NL j) fun q => if cN + 1 ≤ R.cells ∧ sN + q.2.1 ≤ R.slots then onLen H fun i => snoc H (.inr (q.1, q.2.2)) fun H' => k (pc + 3) ls (.ref (ad n0 i) :: st) H' (cN + 1) (sN + q.2.1) else False
  | .putfield j => onSome (look PL j) fun q => match q.2.2.2 with | .long => popJ st fun x r => popR r fun a r => obj H n0 a fun i C fs => if C = q.1 then fgt fs q.2.1 q.2.2.1 fun _ => fst fs q.2.1 (.long x) fun fs' => setH H i (.inr (C, fs')) fun H' => k (pc + 3) ls r H' cN sN else False | .int => popI st fun x r => popR r fun a r => obj H n0 a fun i C fs => if C = q.1 then fgt fs q.2.1 q.2.2.1 fun _ => fst fs q.2.1 (.int x) fun fs' => setH H i (.inr (C, fs')) fun H' => k (pc + 3) ls r H' cN sN else False | .boolean => popI st fun x r => popR r fun a r => obj H n0 a fun i C fs => if C = q.1 then fgt fs q.2.1 q.2.2.1 fun _ => fst fs q.2.1 (.int (nar .boolean x)) fun fs' => setH H i (.inr (C, fs')) fun H' => k (pc + 3) ls r H' cN sN else False | .object _ => popA st fun x r => popR r fun a r => obj H n0 a fun i C fs => if C = q.1 then fgt fs q.2.1 q.2.2.1 fun _ => fst fs q.2.1 (x) fun fs' => setH H i (.inr (C, fs')) fun H' => k (pc + 3) ls r H' cN sN else False | .array _ => popA st fun x r => popR r fun a r => obj H n0 a fun i C fs => if C = q.1 then fgt fs q.2.1 q.2.2.1 fun _ => fst fs q.2.1 (x) fun fs' => setH H i (.inr (C, fs')) fun H' => k (pc + 3) ls r H' cN sN else False | _ => False
  | _ => g pc ls st H cN sN
/-- n steps from here -/
def Wn (S : List Nat) (code : ByteArray) (CI : List (Nat × Int32)) (CL : List (Nat × Int64)) (FL : List (Nat × String × String × String)) (AL : List FieldType) (PL : List (Nat × String × String × String × FieldType)) (NL : List (Nat × String × Nat × List (String × String × Value))) (ret : Option FieldType) (R : Room) (n0 rc rs : Nat) (K : Option Value → List Cel → Prop) (g : Cont) : Nat → Cont
  | 0 => g
  | n + 1 => fun pc ls st H cN sN => if pc ∈ S then g pc ls st H cN sN else onSome (at1 code pc) fun i => W1 CI CL FL AL PL NL ret R n0 rc rs K g i pc ls st H cN sN (Wn S code CI CL FL AL PL NL ret R n0 rc rs K g n)

section Sound
variable {code : ByteArray} {own nm : String} {maxL : Nat} {ret : Option FieldType} {R : Room} {W : List Jvm.Cond} {l : Launch} {Z : State} {b : Heap} {rc rs : Nat} {K : Option Value → List Cel → Prop}
variable {CI : List (Nat × Int32)} {CL : List (Nat × Int64)} {FL : List (Nat × String × String × String)} {AL : List FieldType} {PL : List (Nat × String × String × String × FieldType)} {NL : List (Nat × String × Nat × List (String × String × Value))}
set_option maxHeartbeats 40000000 in
theorem W1_sound (hCI : ∀ x ∈ CI, Jvm.Cond.constant own x.1 x.2 ∈ W) (hCL : ∀ x ∈ CL, Jvm.Cond.constantLong own x.1 x.2 ∈ W) (hFL : ∀ x ∈ FL, Jvm.Cond.fieldLink own x.1 x.2.1 x.2.2.1 x.2.2.2 ∈ W) (hAL : ∀ x ∈ AL, Jvm.Cond.arrayClass x ∈ W) (hPL : ∀ x ∈ PL, PutOk W own nm x.1 x.2.1 x.2.2.1 x.2.2.2.1 x.2.2.2.2) (hNL : ∀ x ∈ NL, NewOk W own x.1 x.2.1 x.2.2.1 x.2.2.2) {i : Instr} {pc : Nat} {ls : List Slot} {st : List Value} {H : List Cel} {cN sN : Nat} {k : Cont}
    (hd0 : decode code pc = .ok (i, ilen i)) (hoff : 0 ≤ (pc : Int) + off i) (hk : ∀ pc ls st H cN sN, k pc ls st H cN sN → G code own nm maxL ret R W l Z b rc rs K pc ls st H cN sN)
    (h : W1 CI CL FL AL PL NL ret R b.size rc rs K (G code own nm maxL ret R W l Z b rc rs K) i pc ls st H cN sN k) : G code own nm maxL ret R W l Z b rc rs K pc ls st H cN sN := by
  unfold W1 at h
  split at h
  · have hd := hd0; simp only [ilen] at hd; have hh := ldI_e h; clear h; obtain ⟨v, q, h⟩ := hh; exact G.pure (fun p e s m args below meth c T locs a0 hx hc hZ ho hw X hR tg hs => XS.iloadN X.here hx rfl (hb hc hd) (by simpa using q) hs) (hk _ _ _ _ _ _ h)
  · have hd := hd0; simp only [ilen] at hd; have hh := ldI_e h; clear h; obtain ⟨v, q, h⟩ := hh; exact G.pure (fun p e s m args below meth c T locs a0 hx hc hZ ho hw X hR tg hs => XS.iload X.here hx rfl (hb hc hd) (by simpa using q) hs) (hk _ _ _ _ _ _ h)
  · have hd := hd0; simp only [ilen] at hd; have hh := ldJ_e h; clear h; obtain ⟨v, q, h⟩ := hh; exact G.pure (fun p e s m args below meth c T locs a0 hx hc hZ ho hw X hR tg hs => XT.lloadN X.here hx rfl (hb hc hd) (by simpa using q) hs) (hk _ _ _ _ _ _ h)
  · have hd := hd0; simp only [ilen] at hd; have hh := ldJ_e h; clear h; obtain ⟨v, q, h⟩ := hh; exact G.pure (fun p e s m args below meth c T locs a0 hx hc hZ ho hw X hR tg hs => XT.lload X.here hx rfl (hb hc hd) (by simpa using q) hs) (hk _ _ _ _ _ _ h)
  · have hd := hd0; simp only [ilen] at hd; have hh := ldA_e h; clear h; obtain ⟨v, q, hv, h⟩ := hh; exact G.pure (fun p e s m args below meth c T locs a0 hx hc hZ ho hw X hR tg hs => XS.aloadN X.here hx rfl (hb hc hd) (by simpa using q) hv hs) (hk _ _ _ _ _ _ h)
  · have hd := hd0; simp only [ilen] at hd; have hh := ldA_e h; clear h; obtain ⟨v, q, hv, h⟩ := hh; exact G.pure (fun p e s m args below meth c T locs a0 hx hc hZ ho hw X hR tg hs => XS.aload X.here hx rfl (hb hc hd) (by simpa using q) hv hs) (hk _ _ _ _ _ _ h)
  · have hd := hd0; simp only [ilen] at hd; have hh := popI_e h; clear h; obtain ⟨v, r, rfl, h⟩ := hh; have hh := sto1_e rfl h; clear h; obtain ⟨l', q, h⟩ := hh; exact G.pure (fun p e s m args below meth c T locs a0 hx hc hZ ho hw X hR tg hs => XS.istoreN X.here hx rfl (hb hc hd) rfl q hs) (hk _ _ _ _ _ _ h)
  · have hd := hd0; simp only [ilen] at hd; have hh := popI_e h; clear h; obtain ⟨v, r, rfl, h⟩ := hh; have hh := sto1_e rfl h; clear h; obtain ⟨l', q, h⟩ := hh; exact G.pure (fun p e s m args below meth c T locs a0 hx hc hZ ho hw X hR tg hs => XS.istore X.here hx rfl (hb hc hd) rfl q hs) (hk _ _ _ _ _ _ h)
  · have hd := hd0; simp only [ilen] at hd; have hh := popJ_e h; clear h; obtain ⟨v, r, rfl, h⟩ := hh; have hh := sto2_e rfl h; clear h; obtain ⟨l', q, h⟩ := hh; exact G.pure (fun p e s m args below meth c T locs a0 hx hc hZ ho hw X hR tg hs => XT.lstoreN X.here hx rfl (hb hc hd) rfl q hs) (hk _ _ _ _ _ _ h)
  · have hd := hd0; simp only [ilen] at hd; have hh := popJ_e h; clear h; obtain ⟨v, r, rfl, h⟩ := hh; have hh := sto2_e rfl h; clear h; obtain ⟨l', q, h⟩ := hh; exact G.pure (fun p e s m args below meth c T locs a0 hx hc hZ ho hw X hR tg hs => XT.lstore X.here hx rfl (hb hc hd) rfl q hs) (hk _ _ _ _ _ _ h)
  · have hd := hd0; simp only [ilen] at hd; have hh := popA_e h; clear h; obtain ⟨v, r, rfl, hv, hv1, h⟩ := hh; have hh := sto1_e hv1 h; clear h; obtain ⟨l', q, h⟩ := hh; exact G.pure (fun p e s m args below meth c T locs a0 hx hc hZ ho hw X hR tg hs => XS.astoreN X.here hx rfl (hb hc hd) rfl hv q hs) (hk _ _ _ _ _ _ h)
  · have hd := hd0; simp only [ilen] at hd; have hh := popA_e h; clear h; obtain ⟨v, r, rfl, hv, hv1, h⟩ := hh; have hh := sto1_e hv1 h; clear h; obtain ⟨l', q, h⟩ := hh; exact G.pure (fun p e s m args below meth c T locs a0 hx hc hZ ho hw X hR tg hs => XS.astore X.here hx rfl (hb hc hd) rfl hv q hs) (hk _ _ _ _ _ _ h)
  · have hd := hd0; simp only [ilen] at hd; exact G.pure (fun p e s m args below meth c T locs a0 hx hc hZ ho hw X hR tg hs => XS.iconst X.here hx rfl (hb hc hd) hs) (hk _ _ _ _ _ _ h)
  · have hd := hd0; simp only [ilen] at hd; exact G.pure (fun p e s m args below meth c T locs a0 hx hc hZ ho hw X hR tg hs => XT.lconst X.here hx rfl (hb hc hd) hs) (hk _ _ _ _ _ _ h)
  · have hd := hd0; simp only [ilen] at hd; exact G.pure (fun p e s m args below meth c T locs a0 hx hc hZ ho hw X hR tg hs => XS.bipush X.here hx rfl (hb hc hd) hs) (hk _ _ _ _ _ _ h)
  · have hd := hd0; simp only [ilen] at hd; exact G.pure (fun p e s m args below meth c T locs a0 hx hc hZ ho hw X hR tg hs => XS.sipush X.here hx rfl (hb hc hd) hs) (hk _ _ _ _ _ _ h)
  · have hd := hd0; simp only [ilen] at hd; exact G.pure (fun p e s m args below meth c T locs a0 hx hc hZ ho hw X hR tg hs => XS.aconstNull X.here hx rfl (hb hc hd) hs) (hk _ _ _ _ _ _ h)
  · have hd := hd0; simp only [ilen] at hd; have hh := onSome_e h; clear h; obtain ⟨v, q, h⟩ := hh; exact G.pure (fun p e s m args below meth c T locs a0 hx hc hZ ho hw X hR tg hs => X.ldcInt hx ho (mvT hZ (hw _ (hCI _ (look_mem q)))) (g := mkF m pc ls.toArray st) rfl (hb hc hd) _ hs) (hk _ _ _ _ _ _ h)
  · have hd := hd0; simp only [ilen] at hd; have hh := onSome_e h; clear h; obtain ⟨v, q, h⟩ := hh; exact G.pure (fun p e s m args below meth c T locs a0 hx hc hZ ho hw X hR tg hs => X.ldc2Long hx ho (mvT hZ (hw _ (hCL _ (look_mem q)))) (g := mkF m pc ls.toArray st) rfl (hb hc hd) _ hs) (hk _ _ _ _ _ _ h)
  · have hd := hd0; simp only [ilen] at hd; have hh := popI_e h; clear h; obtain ⟨y, r, rfl, h⟩ := hh; have hh := popI_e h; clear h; obtain ⟨x, r, rfl, h⟩ := hh; exact G.pure (fun p e s m args below meth c T locs a0 hx hc hZ ho hw X hR tg hs => XS.iadd X.here hx rfl (hb hc hd) rfl hs) (hk _ _ _ _ _ _ h)
  · have hd := hd0; simp only [ilen] at hd; have hh := popI_e h; clear h; obtain ⟨y, r, rfl, h⟩ := hh; have hh := popI_e h; clear h; obtain ⟨x, r, rfl, h⟩ := hh; exact G.pure (fun p e s m args below meth c T locs a0 hx hc hZ ho hw X hR tg hs => XS.isub X.here hx rfl (hb hc hd) rfl hs) (hk _ _ _ _ _ _ h)
  · have hd := hd0; simp only [ilen] at hd; have hh := popI_e h; clear h; obtain ⟨y, r, rfl, h⟩ := hh; have hh := popI_e h; clear h; obtain ⟨x, r, rfl, h⟩ := hh; exact G.pure (fun p e s m args below meth c T locs a0 hx hc hZ ho hw X hR tg hs => XS.imul X.here hx rfl (hb hc hd) rfl hs) (hk _ _ _ _ _ _ h)
  · have hd := hd0; simp only [ilen] at hd; have hh := popI_e h; clear h; obtain ⟨y, r, rfl, h⟩ := hh; have hh := popI_e h; clear h; obtain ⟨x, r, rfl, h⟩ := hh; exact G.pure (fun p e s m args below meth c T locs a0 hx hc hZ ho hw X hR tg hs => XS.iand X.here hx rfl (hb hc hd) rfl hs) (hk _ _ _ _ _ _ h)
  · have hd := hd0; simp only [ilen] at hd; have hh := popI_e h; clear h; obtain ⟨y, r, rfl, h⟩ := hh; have hh := popI_e h; clear h; obtain ⟨x, r, rfl, h⟩ := hh; exact G.pure (fun p e s m args below meth c T locs a0 hx hc hZ ho hw X hR tg hs => XT.ior X.here hx rfl (hb hc hd) rfl hs) (hk _ _ _ _ _ _ h)
  · have hd := hd0; simp only [ilen] at hd; have hh := popI_e h; clear h; obtain ⟨y, r, rfl, h⟩ := hh; have hh := popI_e h; clear h; obtain ⟨x, r, rfl, h⟩ := hh; exact G.pure (fun p e s m args below meth c T locs a0 hx hc hZ ho hw X hR tg hs => XT.ixor X.here hx rfl (hb hc hd) rfl hs) (hk _ _ _ _ _ _ h)
  · have hd := hd0; simp only [ilen] at hd; have hh := popI_e h; clear h; obtain ⟨y, r, rfl, h⟩ := hh; have hh := popI_e h; clear h; obtain ⟨x, r, rfl, h⟩ := hh; exact G.pure (fun p e s m args below meth c T locs a0 hx hc hZ ho hw X hR tg hs => XT.ishl X.here hx rfl (hb hc hd) rfl hs) (hk _ _ _ _ _ _ h)
  · have hd := hd0; simp only [ilen] at hd; have hh := popI_e h; clear h; obtain ⟨y, r, rfl, h⟩ := hh; have hh := popI_e h; clear h; obtain ⟨x, r, rfl, h⟩ := hh; exact G.pure (fun p e s m args below meth c T locs a0 hx hc hZ ho hw X hR tg hs => XT.ishr X.here hx rfl (hb hc hd) rfl hs) (hk _ _ _ _ _ _ h)
  · have hd := hd0; simp only [ilen] at hd; have hh := popI_e h; clear h; obtain ⟨y, r, rfl, h⟩ := hh; have hh := popI_e h; clear h; obtain ⟨x, r, rfl, h⟩ := hh; exact G.pure (fun p e s m args below meth c T locs a0 hx hc hZ ho hw X hR tg hs => XT.iushr X.here hx rfl (hb hc hd) rfl hs) (hk _ _ _ _ _ _ h)
  · have hd := hd0; simp only [ilen] at hd; have hh := popI_e h; clear h; obtain ⟨y, r, rfl, h⟩ := hh; have hh := popI_e h; clear h; obtain ⟨x, r, rfl, h⟩ := hh; obtain ⟨hy, h⟩ := h; exact G.pure (fun p e s m args below meth c T locs a0 hx hc hZ ho hw X hR tg hs => XS.idiv X.here hx rfl (hb hc hd) rfl hy hs) (hk _ _ _ _ _ _ h)
  · have hd := hd0; simp only [ilen] at hd; have hh := popI_e h; clear h; obtain ⟨y, r, rfl, h⟩ := hh; have hh := popI_e h; clear h; obtain ⟨x, r, rfl, h⟩ := hh; obtain ⟨hy, h⟩ := h; exact G.pure (fun p e s m args below meth c T locs a0 hx hc hZ ho hw X hR tg hs => XS.irem X.here hx rfl (hb hc hd) rfl hy hs) (hk _ _ _ _ _ _ h)
  · have hd := hd0; simp only [ilen] at hd; have hh := popJ_e h; clear h; obtain ⟨y, r, rfl, h⟩ := hh; have hh := popJ_e h; clear h; obtain ⟨x, r, rfl, h⟩ := hh; exact G.pure (fun p e s m args below meth c T locs a0 hx hc hZ ho hw X hR tg hs => XT.ladd X.here hx rfl (hb hc hd) rfl hs) (hk _ _ _ _ _ _ h)
  · have hd := hd0; simp only [ilen] at hd; have hh := popJ_e h; clear h; obtain ⟨y, r, rfl, h⟩ := hh; have hh := popJ_e h; clear h; obtain ⟨x, r, rfl, h⟩ := hh; exact G.pure (fun p e s m args below meth c T locs a0 hx hc hZ ho hw X hR tg hs => XT.lsub X.here hx rfl (hb hc hd) rfl hs) (hk _ _ _ _ _ _ h)
  · have hd := hd0; simp only [ilen] at hd; have hh := popJ_e h; clear h; obtain ⟨y, r, rfl, h⟩ := hh; have hh := popJ_e h; clear h; obtain ⟨x, r, rfl, h⟩ := hh; exact G.pure (fun p e s m args below meth c T locs a0 hx hc hZ ho hw X hR tg hs => XT.lmul X.here hx rfl (hb hc hd) rfl hs) (hk _ _ _ _ _ _ h)
  · have hd := hd0; simp only [ilen] at hd; have hh := popJ_e h; clear h; obtain ⟨y, r, rfl, h⟩ := hh; have hh := popJ_e h; clear h; obtain ⟨x, r, rfl, h⟩ := hh; exact G.pure (fun p e s m args below meth c T locs a0 hx hc hZ ho hw X hR tg hs => XT.land X.here hx rfl (hb hc hd) rfl hs) (hk _ _ _ _ _ _ h)
  · have hd := hd0; simp only [ilen] at hd; have hh := popJ_e h; clear h; obtain ⟨y, r, rfl, h⟩ := hh; have hh := popJ_e h; clear h; obtain ⟨x, r, rfl, h⟩ := hh; exact G.pure (fun p e s m args below meth c T locs a0 hx hc hZ ho hw X hR tg hs => XT.lor X.here hx rfl (hb hc hd) rfl hs) (hk _ _ _ _ _ _ h)
  · have hd := hd0; simp only [ilen] at hd; have hh := popJ_e h; clear h; obtain ⟨y, r, rfl, h⟩ := hh; have hh := popJ_e h; clear h; obtain ⟨x, r, rfl, h⟩ := hh; exact G.pure (fun p e s m args below meth c T locs a0 hx hc hZ ho hw X hR tg hs => XT.lxor X.here hx rfl (hb hc hd) rfl hs) (hk _ _ _ _ _ _ h)
  · have hd := hd0; simp only [ilen] at hd; have hh := popJ_e h; clear h; obtain ⟨y, r, rfl, h⟩ := hh; have hh := popJ_e h; clear h; obtain ⟨x, r, rfl, h⟩ := hh; obtain ⟨hy, h⟩ := h; exact G.pure (fun p e s m args below meth c T locs a0 hx hc hZ ho hw X hR tg hs => XT.ldiv X.here hx rfl (hb hc hd) rfl hy hs) (hk _ _ _ _ _ _ h)
  · have hd := hd0; simp only [ilen] at hd; have hh := popJ_e h; clear h; obtain ⟨y, r, rfl, h⟩ := hh; have hh := popJ_e h; clear h; obtain ⟨x, r, rfl, h⟩ := hh; obtain ⟨hy, h⟩ := h; exact G.pure (fun p e s m args below meth c T locs a0 hx hc hZ ho hw X hR tg hs => XT.lrem X.here hx rfl (hb hc hd) rfl hy hs) (hk _ _ _ _ _ _ h)
  · have hd := hd0; simp only [ilen] at hd; have hh := popI_e h; clear h; obtain ⟨y, r, rfl, h⟩ := hh; have hh := popJ_e h; clear h; obtain ⟨x, r, rfl, h⟩ := hh; exact G.pure (fun p e s m args below meth c T locs a0 hx hc hZ ho hw X hR tg hs => XT.lshl X.here hx rfl (hb hc hd) rfl hs) (hk _ _ _ _ _ _ h)
  · have hd := hd0; simp only [ilen] at hd; have hh := popI_e h; clear h; obtain ⟨y, r, rfl, h⟩ := hh; have hh := popJ_e h; clear h; obtain ⟨x, r, rfl, h⟩ := hh; exact G.pure (fun p e s m args below meth c T locs a0 hx hc hZ ho hw X hR tg hs => XT.lshr X.here hx rfl (hb hc hd) rfl hs) (hk _ _ _ _ _ _ h)
  · have hd := hd0; simp only [ilen] at hd; have hh := popI_e h; clear h; obtain ⟨y, r, rfl, h⟩ := hh; have hh := popJ_e h; clear h; obtain ⟨x, r, rfl, h⟩ := hh; exact G.pure (fun p e s m args below meth c T locs a0 hx hc hZ ho hw X hR tg hs => XT.lushr X.here hx rfl (hb hc hd) rfl hs) (hk _ _ _ _ _ _ h)
  · have hd := hd0; simp only [ilen] at hd; have hh := popJ_e h; clear h; obtain ⟨y, r, rfl, h⟩ := hh; have hh := popJ_e h; clear h; obtain ⟨x, r, rfl, h⟩ := hh; exact G.pure (fun p e s m args below meth c T locs a0 hx hc hZ ho hw X hR tg hs => XT.lcmp X.here hx rfl (hb hc hd) rfl hs) (hk _ _ _ _ _ _ h)
  · have hd := hd0; simp only [ilen] at hd; have hh := popI_e h; clear h; obtain ⟨x, r, rfl, h⟩ := hh; exact G.pure (fun p e s m args below meth c T locs a0 hx hc hZ ho hw X hR tg hs => XT.i2l X.here hx rfl (hb hc hd) rfl hs) (hk _ _ _ _ _ _ h)
  · have hd := hd0; simp only [ilen] at hd; have hh := popJ_e h; clear h; obtain ⟨x, r, rfl, h⟩ := hh; exact G.pure (fun p e s m args below meth c T locs a0 hx hc hZ ho hw X hR tg hs => XT.l2i X.here hx rfl (hb hc hd) rfl hs) (hk _ _ _ _ _ _ h)
  · have hd := hd0; simp only [ilen] at hd; have hh := popI_e h; clear h; obtain ⟨x, r, rfl, h⟩ := hh; exact G.pure (fun p e s m args below meth c T locs a0 hx hc hZ ho hw X hR tg hs => XT.i2b X.here hx rfl (hb hc hd) rfl hs) (hk _ _ _ _ _ _ h)
  · have hd := hd0; simp only [ilen] at hd; have hh := popI_e h; clear h; obtain ⟨x, r, rfl, h⟩ := hh; exact G.pure (fun p e s m args below meth c T locs a0 hx hc hZ ho hw X hR tg hs => XT.i2c X.here hx rfl (hb hc hd) rfl hs) (hk _ _ _ _ _ _ h)
  · have hd := hd0; simp only [ilen] at hd; have hh := popI_e h; clear h; obtain ⟨x, r, rfl, h⟩ := hh; exact G.pure (fun p e s m args below meth c T locs a0 hx hc hZ ho hw X hR tg hs => XT.i2s X.here hx rfl (hb hc hd) rfl hs) (hk _ _ _ _ _ _ h)
  · have hd := hd0; simp only [ilen] at hd; have hh := popI_e h; clear h; obtain ⟨x, r, rfl, h⟩ := hh; exact G.pure (fun p e s m args below meth c T locs a0 hx hc hZ ho hw X hR tg hs => XS.ineg X.here hx rfl (hb hc hd) rfl hs) (hk _ _ _ _ _ _ h)
  · have hd := hd0; simp only [ilen] at hd; have hh := pop1_e h; clear h; obtain ⟨x, r, rfl, hx1, h⟩ := hh; exact G.pure (fun p e s m args below meth c T locs a0 hx hc hZ ho hw X hR tg hs => XS.dup X.here hx rfl (hb hc hd) rfl hx1 hs) (hk _ _ _ _ _ _ h)
  · have hd := hd0; simp only [ilen] at hd; have hh := pop1_e h; clear h; obtain ⟨x, r, rfl, hx1, h⟩ := hh; exact G.pure (fun p e s m args below meth c T locs a0 hx hc hZ ho hw X hR tg hs => XT.pop X.here hx rfl (hb hc hd) rfl hx1 hs) (hk _ _ _ _ _ _ h)
  · have hd := hd0; simp only [ilen] at hd; have hh := pop1_e h; clear h; obtain ⟨x, r, rfl, hx1, h⟩ := hh; have hh := pop1_e h; clear h; obtain ⟨y, r, rfl, hy1, h⟩ := hh; exact G.pure (fun p e s m args below meth c T locs a0 hx hc hZ ho hw X hR tg hs => XT.dupX1 X.here hx rfl (hb hc hd) rfl hx1 hy1 hs) (hk _ _ _ _ _ _ h)
  · have hd := hd0; simp only [ilen] at hd; have hh := ldI_e h; clear h; obtain ⟨v, q, h⟩ := hh; exact G.pure (fun p e s m args below meth c T locs a0 hx hc hZ ho hw X hR tg hs => XS.iinc X.here hx rfl (hb hc hd) (by simpa using q) (XS.store1 (by simpa using q) (Or.inr ⟨_, rfl, rfl⟩) rfl) (by simpa using hs)) (hk _ _ _ _ _ _ h)
  · have hd := hd0; simp only [ilen] at hd; have h1 := hoff; simp only [off] at h1; exact G.pure (fun p e s m args below meth c T locs a0 hx hc hZ ho hw X hR tg hs => XS.goto X.here hx rfl rfl (hb hc hd) h1 rfl hs) (hk _ _ _ _ _ _ h)
  · have hd := hd0; simp only [ilen] at hd; have hh := popI_e h; clear h; obtain ⟨x, r, rfl, h⟩ := hh; (try dsimp only at h); split at h <;> rename_i q <;> first | (have h1 := hoff; simp only [off] at h1; exact G.pure (fun p e s m args below meth c T locs a0 hx hc hZ ho hw X hR tg hs => XS.ifYes X.here hx rfl rfl (hb hc hd) rfl (XT.i0_eq_t q) h1 rfl hs) (hk _ _ _ _ _ _ h)) | (exact G.pure (fun p e s m args below meth c T locs a0 hx hc hZ ho hw X hR tg hs => XS.ifNo X.here hx rfl (hb hc hd) rfl (XT.i0_eq_f q) hs) (hk _ _ _ _ _ _ h))
  · have hd := hd0; simp only [ilen] at hd; have hh := popI_e h; clear h; obtain ⟨x, r, rfl, h⟩ := hh; (try dsimp only at h); split at h <;> rename_i q <;> first | (have h1 := hoff; simp only [off] at h1; exact G.pure (fun p e s m args below meth c T locs a0 hx hc hZ ho hw X hR tg hs => XS.ifYes X.here hx rfl rfl (hb hc hd) rfl (XT.i0_ne_t q) h1 rfl hs) (hk _ _ _ _ _ _ h)) | (exact G.pure (fun p e s m args below meth c T locs a0 hx hc hZ ho hw X hR tg hs => XS.ifNo X.here hx rfl (hb hc hd) rfl (XT.i0_ne_f q) hs) (hk _ _ _ _ _ _ h))
  · have hd := hd0; simp only [ilen] at hd; have hh := popI_e h; clear h; obtain ⟨x, r, rfl, h⟩ := hh; (try dsimp only at h); split at h <;> rename_i q <;> first | (have h1 := hoff; simp only [off] at h1; exact G.pure (fun p e s m args below meth c T locs a0 hx hc hZ ho hw X hR tg hs => XS.ifYes X.here hx rfl rfl (hb hc hd) rfl (XT.i0_lt_t q) h1 rfl hs) (hk _ _ _ _ _ _ h)) | (exact G.pure (fun p e s m args below meth c T locs a0 hx hc hZ ho hw X hR tg hs => XS.ifNo X.here hx rfl (hb hc hd) rfl (XT.i0_lt_f q) hs) (hk _ _ _ _ _ _ h))
  · have hd := hd0; simp only [ilen] at hd; have hh := popI_e h; clear h; obtain ⟨x, r, rfl, h⟩ := hh; (try dsimp only at h); split at h <;> rename_i q <;> first | (have h1 := hoff; simp only [off] at h1; exact G.pure (fun p e s m args below meth c T locs a0 hx hc hZ ho hw X hR tg hs => XS.ifYes X.here hx rfl rfl (hb hc hd) rfl (XT.i0_ge_t q) h1 rfl hs) (hk _ _ _ _ _ _ h)) | (exact G.pure (fun p e s m args below meth c T locs a0 hx hc hZ ho hw X hR tg hs => XS.ifNo X.here hx rfl (hb hc hd) rfl (XT.i0_ge_f q) hs) (hk _ _ _ _ _ _ h))
  · have hd := hd0; simp only [ilen] at hd; have hh := popI_e h; clear h; obtain ⟨x, r, rfl, h⟩ := hh; (try dsimp only at h); split at h <;> rename_i q <;> first | (have h1 := hoff; simp only [off] at h1; exact G.pure (fun p e s m args below meth c T locs a0 hx hc hZ ho hw X hR tg hs => XS.ifYes X.here hx rfl rfl (hb hc hd) rfl (XT.i0_gt_t q) h1 rfl hs) (hk _ _ _ _ _ _ h)) | (exact G.pure (fun p e s m args below meth c T locs a0 hx hc hZ ho hw X hR tg hs => XS.ifNo X.here hx rfl (hb hc hd) rfl (XT.i0_gt_f q) hs) (hk _ _ _ _ _ _ h))
  · have hd := hd0; simp only [ilen] at hd; have hh := popI_e h; clear h; obtain ⟨x, r, rfl, h⟩ := hh; (try dsimp only at h); split at h <;> rename_i q <;> first | (have h1 := hoff; simp only [off] at h1; exact G.pure (fun p e s m args below meth c T locs a0 hx hc hZ ho hw X hR tg hs => XS.ifYes X.here hx rfl rfl (hb hc hd) rfl (XT.i0_le_t q) h1 rfl hs) (hk _ _ _ _ _ _ h)) | (exact G.pure (fun p e s m args below meth c T locs a0 hx hc hZ ho hw X hR tg hs => XS.ifNo X.here hx rfl (hb hc hd) rfl (XT.i0_le_f q) hs) (hk _ _ _ _ _ _ h))
  · have hd := hd0; simp only [ilen] at hd; have hh := popI_e h; clear h; obtain ⟨y, r, rfl, h⟩ := hh; have hh := popI_e h; clear h; obtain ⟨x, r, rfl, h⟩ := hh; (try dsimp only at h); split at h <;> rename_i q <;> first | (have h1 := hoff; simp only [off] at h1; exact G.pure (fun p e s m args below meth c T locs a0 hx hc hZ ho hw X hR tg hs => XS.icmpYes X.here hx rfl rfl (hb hc hd) rfl (XT.ii_eq_t q) h1 rfl hs) (hk _ _ _ _ _ _ h)) | (exact G.pure (fun p e s m args below meth c T locs a0 hx hc hZ ho hw X hR tg hs => XS.icmpNo X.here hx rfl (hb hc hd) rfl (XT.ii_eq_f q) hs) (hk _ _ _ _ _ _ h))
  · have hd := hd0; simp only [ilen] at hd; have hh := popI_e h; clear h; obtain ⟨y, r, rfl, h⟩ := hh; have hh := popI_e h; clear h; obtain ⟨x, r, rfl, h⟩ := hh; (try dsimp only at h); split at h <;> rename_i q <;> first | (have h1 := hoff; simp only [off] at h1; exact G.pure (fun p e s m args below meth c T locs a0 hx hc hZ ho hw X hR tg hs => XS.icmpYes X.here hx rfl rfl (hb hc hd) rfl (XT.ii_ne_t q) h1 rfl hs) (hk _ _ _ _ _ _ h)) | (exact G.pure (fun p e s m args below meth c T locs a0 hx hc hZ ho hw X hR tg hs => XS.icmpNo X.here hx rfl (hb hc hd) rfl (XT.ii_ne_f q) hs) (hk _ _ _ _ _ _ h))
  · have hd := hd0; simp only [ilen] at hd; have hh := popI_e h; clear h; obtain ⟨y, r, rfl, h⟩ := hh; have hh := popI_e h; clear h; obtain ⟨x, r, rfl, h⟩ := hh; (try dsimp only at h); split at h <;> rename_i q <;> first | (have h1 := hoff; simp only [off] at h1; exact G.pure (fun p e s m args below meth c T locs a0 hx hc hZ ho hw X hR tg hs => XS.icmpYes X.here hx rfl rfl (hb hc hd) rfl (XT.ii_lt_t q) h1 rfl hs) (hk _ _ _ _ _ _ h)) | (exact G.pure (fun p e s m args below meth c T locs a0 hx hc hZ ho hw X hR tg hs => XS.icmpNo X.here hx rfl (hb hc hd) rfl (XT.ii_lt_f q) hs) (hk _ _ _ _ _ _ h))
  · have hd := hd0; simp only [ilen] at hd; have hh := popI_e h; clear h; obtain ⟨y, r, rfl, h⟩ := hh; have hh := popI_e h; clear h; obtain ⟨x, r, rfl, h⟩ := hh; (try dsimp only at h); split at h <;> rename_i q <;> first | (have h1 := hoff; simp only [off] at h1; exact G.pure (fun p e s m args below meth c T locs a0 hx hc hZ ho hw X hR tg hs => XS.icmpYes X.here hx rfl rfl (hb hc hd) rfl (XT.ii_ge_t q) h1 rfl hs) (hk _ _ _ _ _ _ h)) | (exact G.pure (fun p e s m args below meth c T locs a0 hx hc hZ ho hw X hR tg hs => XS.icmpNo X.here hx rfl (hb hc hd) rfl (XT.ii_ge_f q) hs) (hk _ _ _ _ _ _ h))
  · have hd := hd0; simp only [ilen] at hd; have hh := popI_e h; clear h; obtain ⟨y, r, rfl, h⟩ := hh; have hh := popI_e h; clear h; obtain ⟨x, r, rfl, h⟩ := hh; (try dsimp only at h); split at h <;> rename_i q <;> first | (have h1 := hoff; simp only [off] at h1; exact G.pure (fun p e s m args below meth c T locs a0 hx hc hZ ho hw X hR tg hs => XS.icmpYes X.here hx rfl rfl (hb hc hd) rfl (XT.ii_gt_t q) h1 rfl hs) (hk _ _ _ _ _ _ h)) | (exact G.pure (fun p e s m args below meth c T locs a0 hx hc hZ ho hw X hR tg hs => XS.icmpNo X.here hx rfl (hb hc hd) rfl (XT.ii_gt_f q) hs) (hk _ _ _ _ _ _ h))
  · have hd := hd0; simp only [ilen] at hd; have hh := popI_e h; clear h; obtain ⟨y, r, rfl, h⟩ := hh; have hh := popI_e h; clear h; obtain ⟨x, r, rfl, h⟩ := hh; (try dsimp only at h); split at h <;> rename_i q <;> first | (have h1 := hoff; simp only [off] at h1; exact G.pure (fun p e s m args below meth c T locs a0 hx hc hZ ho hw X hR tg hs => XS.icmpYes X.here hx rfl rfl (hb hc hd) rfl (XT.ii_le_t q) h1 rfl hs) (hk _ _ _ _ _ _ h)) | (exact G.pure (fun p e s m args below meth c T locs a0 hx hc hZ ho hw X hR tg hs => XS.icmpNo X.here hx rfl (hb hc hd) rfl (XT.ii_le_f q) hs) (hk _ _ _ _ _ _ h))
  · have hd := hd0; simp only [ilen] at hd; (try dsimp only at h); split at h
    · (have h1 := hoff; simp only [off] at h1; exact G.pure (fun p e s m args below meth c T locs a0 hx hc hZ ho hw X hR tg hs => XS.ifnullYes X.here hx rfl rfl (hb hc hd) rfl h1 rfl hs) (hk _ _ _ _ _ _ h))
    · exact G.pure (fun p e s m args below meth c T locs a0 hx hc hZ ho hw X hR tg hs => XS.ifnullNo X.here hx rfl (hb hc hd) rfl hs) (hk _ _ _ _ _ _ h)
    · exact h.elim
  · have hd := hd0; simp only [ilen] at hd; (try dsimp only at h); split at h
    · exact G.pure (fun p e s m args below meth c T locs a0 hx hc hZ ho hw X hR tg hs => XT.ifnonnullNo X.here hx rfl (hb hc hd) rfl hs) (hk _ _ _ _ _ _ h)
    · (have h1 := hoff; simp only [off] at h1; exact G.pure (fun p e s m args below meth c T locs a0 hx hc hZ ho hw X hR tg hs => XT.ifnonnullYes X.here hx rfl rfl (hb hc hd) rfl h1 rfl hs) (hk _ _ _ _ _ _ h))
    · exact h.elim
  · have hd := hd0; simp only [ilen] at hd; have hh := popR_e h; clear h; obtain ⟨a, r, rfl, h⟩ := hh; have hh := arr_e h; clear h; obtain ⟨i, ty, vs, rfl, q, h⟩ := hh; refine G.pure (fun p e s m args below meth c T locs a0 hx hc hZ ho hw X hR tg hs => ?_) (hk _ _ _ _ _ _ h); obtain ⟨cl, A, e1⟩ := hR.2 _ _ q; exact X.arraylength hx A.1 (State.isArrayOf_alike hZ.alike A.2.1) (g := mkF m pc ls.toArray (.ref (ad b.size i) :: r)) rfl rfl (hb hc hd) _ (by rw [e1]; exact hs)
  · have hd := hd0; simp only [ilen] at hd; have hh := popI_e h; clear h; obtain ⟨j, r, rfl, h⟩ := hh; have hh := popR_e h; clear h; obtain ⟨a, r, rfl, h⟩ := hh; have hh := arr_e h; clear h; obtain ⟨i, ty, vs, rfl, q, h⟩ := hh; have hh := ifF_e h; clear h; obtain ⟨rfl, h⟩ := hh; have hh := idx_e h; clear h; obtain ⟨hj, v, hv, h⟩ := hh; refine G.pure (fun p e s m args below meth c T locs a0 hx hc hZ ho hw X hR tg hs => ?_) (hk _ _ _ _ _ _ h); obtain ⟨cl, A, e1⟩ := hR.2 _ _ q; have hlt := (List.getElem?_eq_some_iff.mp hv).1; exact X.baloadBytes hx A.1 (State.isArrayOf_alike hZ.alike A.2.1) A.2.2 (fun z => z.elim hj (fun z => by rw [e1] at z; simp at z; omega)) (by rw [e1]; simpa using hv) (g := mkF m pc ls.toArray (.int j :: .ref (ad b.size i) :: r)) rfl rfl (hb hc hd) _ hs
  · have hd := hd0; simp only [ilen] at hd; have hh := popI_e h; clear h; obtain ⟨j, r, rfl, h⟩ := hh; have hh := popR_e h; clear h; obtain ⟨a, r, rfl, h⟩ := hh; have hh := arr_e h; clear h; obtain ⟨i, ty, vs, rfl, q, h⟩ := hh; have hh := ifF_e h; clear h; obtain ⟨rfl, h⟩ := hh; have hh := idx_e h; clear h; obtain ⟨hj, v, hv, h⟩ := hh; refine G.pure (fun p e s m args below meth c T locs a0 hx hc hZ ho hw X hR tg hs => ?_) (hk _ _ _ _ _ _ h); obtain ⟨cl, A, e1⟩ := hR.2 _ _ q; have hlt := (List.getElem?_eq_some_iff.mp hv).1; exact X.caload hx A.1 (State.isArrayOf_alike hZ.alike A.2.1) A.2.2 (fun z => z.elim hj (fun z => by rw [e1] at z; simp at z; omega)) (by rw [e1]; simpa using hv) (g := mkF m pc ls.toArray (.int j :: .ref (ad b.size i) :: r)) rfl rfl (hb hc hd) _ hs
  · have hd := hd0; simp only [ilen] at hd; have hh := popI_e h; clear h; obtain ⟨j, r, rfl, h⟩ := hh; have hh := popR_e h; clear h; obtain ⟨a, r, rfl, h⟩ := hh; have hh := arr_e h; clear h; obtain ⟨i, ty, vs, rfl, q, h⟩ := hh; have hh := ifF_e h; clear h; obtain ⟨rfl, h⟩ := hh; have hh := idx_e h; clear h; obtain ⟨hj, v, hv, h⟩ := hh; refine G.pure (fun p e s m args below meth c T locs a0 hx hc hZ ho hw X hR tg hs => ?_) (hk _ _ _ _ _ _ h); obtain ⟨cl, A, e1⟩ := hR.2 _ _ q; have hlt := (List.getElem?_eq_some_iff.mp hv).1; exact X.iaload hx A.1 (State.isArrayOf_alike hZ.alike A.2.1) A.2.2 (fun z => z.elim hj (fun z => by rw [e1] at z; simp at z; omega)) (by rw [e1]; simpa using hv) (g := mkF m pc ls.toArray (.int j :: .ref (ad b.size i) :: r)) rfl rfl (hb hc hd) _ hs
  · have hd := hd0; simp only [ilen] at hd; have hh := popI_e h; clear h; obtain ⟨j, r, rfl, h⟩ := hh; have hh := popR_e h; clear h; obtain ⟨a, r, rfl, h⟩ := hh; have hh := arr_e h; clear h; obtain ⟨i, ty, vs, rfl, q, h⟩ := hh; have hh := ifF_e h; clear h; obtain ⟨rfl, h⟩ := hh; have hh := idx_e h; clear h; obtain ⟨hj, v, hv, h⟩ := hh; refine G.pure (fun p e s m args below meth c T locs a0 hx hc hZ ho hw X hR tg hs => ?_) (hk _ _ _ _ _ _ h); obtain ⟨cl, A, e1⟩ := hR.2 _ _ q; have hlt := (List.getElem?_eq_some_iff.mp hv).1; exact X.laload hx A.1 (State.isArrayOf_alike hZ.alike A.2.1) A.2.2 (fun z => z.elim hj (fun z => by rw [e1] at z; simp at z; omega)) (by rw [e1]; simpa using hv) (g := mkF m pc ls.toArray (.int j :: .ref (ad b.size i) :: r)) rfl rfl (hb hc hd) _ hs
  · have hd := hd0; simp only [ilen] at hd; have hh := popI_e h; clear h; obtain ⟨x, r, rfl, h⟩ := hh; have hh := popI_e h; clear h; obtain ⟨j, r, rfl, h⟩ := hh; have hh := popR_e h; clear h; obtain ⟨a, r, rfl, h⟩ := hh; have hh := arr_e h; clear h; obtain ⟨i, ty, vs, rfl, q, h⟩ := hh; have hh := ifF_e h; clear h; obtain ⟨rfl, h⟩ := hh; have hh := idx_e h; clear h; obtain ⟨hj, v, hv, h⟩ := hh; refine G.move (fun p e s m args below meth c T locs a0 hx hc hm hn hZ ho hw X hF hR => ?_) (hk _ _ _ _ _ _ h); obtain ⟨cl, A, e1⟩ := hR.2 _ _ q; have hlt := (List.getElem?_eq_some_iff.mp hv).1; obtain ⟨T', h', X', e2, Wt, sp⟩ := stB X hx hZ rfl A (j := j) (x := x) (fun z => z.elim hj (fun z => by rw [e1] at z; simp at z; omega)) (g := mkF m pc ls.toArray (.int x :: .int j :: .ref (ad b.size i) :: r)) rfl rfl (hb hc hd); exact ⟨T', _, X', hF.app (fun y hy => by cases List.mem_singleton.mp hy; exact Nat.le_add_right _ _), by rw [e2]; exact hR.setArr q Wt, sp⟩
  · have hd := hd0; simp only [ilen] at hd; have hh := popI_e h; clear h; obtain ⟨x, r, rfl, h⟩ := hh; have hh := popI_e h; clear h; obtain ⟨j, r, rfl, h⟩ := hh; have hh := popR_e h; clear h; obtain ⟨a, r, rfl, h⟩ := hh; have hh := arr_e h; clear h; obtain ⟨i, ty, vs, rfl, q, h⟩ := hh; have hh := ifF_e h; clear h; obtain ⟨rfl, h⟩ := hh; have hh := idx_e h; clear h; obtain ⟨hj, v, hv, h⟩ := hh; refine G.move (fun p e s m args below meth c T locs a0 hx hc hm hn hZ ho hw X hF hR => ?_) (hk _ _ _ _ _ _ h); obtain ⟨cl, A, e1⟩ := hR.2 _ _ q; have hlt := (List.getElem?_eq_some_iff.mp hv).1; obtain ⟨T', h', X', e2, Wt, sp⟩ := stC X hx hZ rfl A (j := j) (x := x) (fun z => z.elim hj (fun z => by rw [e1] at z; simp at z; omega)) (g := mkF m pc ls.toArray (.int x :: .int j :: .ref (ad b.size i) :: r)) rfl rfl (hb hc hd); exact ⟨T', _, X', hF.app (fun y hy => by cases List.mem_singleton.mp hy; exact Nat.le_add_right _ _), by rw [e2]; exact hR.setArr q Wt, sp⟩
  · have hd := hd0; simp only [ilen] at hd; have hh := popI_e h; clear h; obtain ⟨x, r, rfl, h⟩ := hh; have hh := popI_e h; clear h; obtain ⟨j, r, rfl, h⟩ := hh; have hh := popR_e h; clear h; obtain ⟨a, r, rfl, h⟩ := hh; have hh := arr_e h; clear h; obtain ⟨i, ty, vs, rfl, q, h⟩ := hh; have hh := ifF_e h; clear h; obtain ⟨rfl, h⟩ := hh; have hh := idx_e h; clear h; obtain ⟨hj, v, hv, h⟩ := hh; refine G.move (fun p e s m args below meth c T locs a0 hx hc hm hn hZ ho hw X hF hR => ?_) (hk _ _ _ _ _ _ h); obtain ⟨cl, A, e1⟩ := hR.2 _ _ q; have hlt := (List.getElem?_eq_some_iff.mp hv).1; obtain ⟨T', h', X', e2, Wt, sp⟩ := stI X hx hZ rfl A (j := j) (x := x) (fun z => z.elim hj (fun z => by rw [e1] at z; simp at z; omega)) (g := mkF m pc ls.toArray (.int x :: .int j :: .ref (ad b.size i) :: r)) rfl rfl (hb hc hd); exact ⟨T', _, X', hF.app (fun y hy => by cases List.mem_singleton.mp hy; exact Nat.le_add_right _ _), by rw [e2]; exact hR.setArr q Wt, sp⟩
  · have hd := hd0; simp only [ilen] at hd; have hh := popJ_e h; clear h; obtain ⟨x, r, rfl, h⟩ := hh; have hh := popI_e h; clear h; obtain ⟨j, r, rfl, h⟩ := hh; have hh := popR_e h; clear h; obtain ⟨a, r, rfl, h⟩ := hh; have hh := arr_e h; clear h; obtain ⟨i, ty, vs, rfl, q, h⟩ := hh; have hh := ifF_e h; clear h; obtain ⟨rfl, h⟩ := hh; have hh := idx_e h; clear h; obtain ⟨hj, v, hv, h⟩ := hh; refine G.move (fun p e s m args below meth c T locs a0 hx hc hm hn hZ ho hw X hF hR => ?_) (hk _ _ _ _ _ _ h); obtain ⟨cl, A, e1⟩ := hR.2 _ _ q; have hlt := (List.getElem?_eq_some_iff.mp hv).1; obtain ⟨T', h', X', e2, Wt, sp⟩ := stJ X hx hZ rfl A (j := j) (x := x) (fun z => z.elim hj (fun z => by rw [e1] at z; simp at z; omega)) (g := mkF m pc ls.toArray (.long x :: .int j :: .ref (ad b.size i) :: r)) rfl rfl (hb hc hd); exact ⟨T', _, X', hF.app (fun y hy => by cases List.mem_singleton.mp hy; exact Nat.le_add_right _ _), by rw [e2]; exact hR.setArr q Wt, sp⟩
  · have hd := hd0; simp only [ilen] at hd; have hh := popI_e h; clear h; obtain ⟨n, r, rfl, h⟩ := hh; have hh := ifF_e h; clear h; obtain ⟨⟨hn0, hA, hcap, hc1, hs1⟩, h⟩ := hh; refine G.move (fun p e s m args below meth c T locs a0 hx hc hm hn hZ ho hw X hF hR => ?_) (hk _ _ _ _ _ _ h); exact newA_step X hx hZ (hw _ (hAL _ hA)) hF hR (hb hc hd) hn0 hcap hc1 hs1
  · have hd := hd0; simp only [ilen] at hd; have hh := popI_e h; clear h; obtain ⟨x, r, rfl, h⟩ := hh; have hh := ifF_e h; clear h; obtain ⟨⟨hc1, hs1⟩, hK⟩ := hh; (try dsimp only at hK); split at hK
    · exact G.leave (fun q => by cases q) (fun p e s m args below meth c T locs hx hc hr X fs hfs => retI X hx hr (hb hc hd) hfs) hc1 hs1 hK
    · exact G.leave (fun q => by cases q) (fun p e s m args below meth c T locs hx hc hr X fs hfs => retN X hx hr (by simp) (hb hc hd) hfs) hc1 hs1 hK
    · exact G.leave (fun q => by cases q) (fun p e s m args below meth c T locs hx hc hr X fs hfs => retN X hx hr (by simp) (hb hc hd) hfs) hc1 hs1 hK
    · exact G.leave (fun q => by cases q) (fun p e s m args below meth c T locs hx hc hr X fs hfs => retN X hx hr (by simp) (hb hc hd) hfs) hc1 hs1 hK
    · exact G.leave (fun q => by cases q) (fun p e s m args below meth c T locs hx hc hr X fs hfs => retN X hx hr (by simp) (hb hc hd) hfs) hc1 hs1 hK
    · exact hK.elim
  · have hd := hd0; simp only [ilen] at hd; have hh := popJ_e h; clear h; obtain ⟨x, r, rfl, h⟩ := hh; have hh := ifF_e h; clear h; obtain ⟨⟨hc1, hs1, rfl, rfl⟩, hK⟩ := hh; exact G.leave (fun q => by cases q) (fun p e s m args below meth c T locs hx hc hr X fs hfs => X.lreturnOut hx hr (hb hc hd) hfs) hc1 hs1 hK
  · have hd := hd0; simp only [ilen] at hd; have hh := popR_e h; clear h; obtain ⟨x, r, rfl, h⟩ := hh; have hh := ifF_e h; clear h; obtain ⟨⟨hc1, hs1, rfl⟩, hK⟩ := hh; exact G.leave (fun q => by cases q) (fun p e s m args below meth c T locs hx hc hr X fs hfs => retOut X hx hr rfl (Or.inr (Or.inr (Or.inr (Or.inr ⟨rfl, rfl, rfl⟩)))) (hb hc hd) hfs) hc1 hs1 hK
  · have hd := hd0; simp only [ilen] at hd; have hh := ifF_e h; clear h; obtain ⟨⟨hc1, hs1, rfl, rfl⟩, hK⟩ := hh; exact G.leave (fun _ => rfl) (fun p e s m args below meth c T locs hx hc hr X fs hfs => X.returnOut hx hr (hb hc hd) hfs) hc1 hs1 hK
  · have hd := hd0; simp only [ilen] at hd; have hh := popR_e h; clear h; obtain ⟨a, r, rfl, h⟩ := hh; have hh := onSome_e h; clear h; obtain ⟨⟨C0, n, d⟩, ql, h⟩ := hh; have hh := obj_e h; clear h; obtain ⟨i, C, fs, rfl, q, h⟩ := hh; have hh := ifF_e h; clear h; obtain ⟨rfl, h⟩ := hh; have hh := onSome_e h; clear h; obtain ⟨v, hv, h⟩ := hh; refine G.move (fun p e s m args below meth c T locs a0 hx hc hm hn hZ ho hw X hF hR => ?_) (hk _ _ _ _ _ _ h); obtain ⟨E, F, -⟩ := hR.2 _ _ q; obtain ⟨T', X', e1, sp⟩ := getF X hx hZ ho (host := "") (Or.inl (hw _ (hFL _ (look_mem ql)))) Via.refl rfl (F _ (fget_mem hv)) (g := mkF m pc ls.toArray (.ref (ad b.size i) :: r)) rfl rfl (hb hc hd); exact ⟨T', _, X', hF, by rw [e1]; exact hR, sp⟩
  · have hd := hd0; simp only [ilen] at hd; have hh := onSome_e h; clear h; obtain ⟨⟨C, n, fs⟩, ql, h⟩ := hh; have hh := ifF_e h; clear h; obtain ⟨⟨hc1, hs1⟩, h⟩ := hh; exact G.new (hNL _ (look_mem ql)) hd hc1 hs1 (hk _ _ _ _ _ _ h)
  · have hd := hd0; simp only [ilen] at hd; have hh := onSome_e h; clear h; obtain ⟨⟨C0, n, d, ty⟩, ql, h⟩ := hh; (try dsimp only at h); split at h
    · (have hh := popJ_e h; clear h; obtain ⟨x, r, rfl, h⟩ := hh; have hh := popR_e h; clear h; obtain ⟨a, r, rfl, h⟩ := hh; have hh := obj_e h; clear h; obtain ⟨i, C, fs, rfl, q, h⟩ := hh; have hh := ifF_e h; clear h; obtain ⟨rfl, h⟩ := hh; have hh := onSome_e h; clear h; obtain ⟨old, hv, h⟩ := hh; exact G.putf (hPL _ (look_mem ql)) rfl rfl hd q hv (hk _ _ _ _ _ _ h))
    · (have hh := popI_e h; clear h; obtain ⟨x, r, rfl, h⟩ := hh; have hh := popR_e h; clear h; obtain ⟨a, r, rfl, h⟩ := hh; have hh := obj_e h; clear h; obtain ⟨i, C, fs, rfl, q, h⟩ := hh; have hh := ifF_e h; clear h; obtain ⟨rfl, h⟩ := hh; have hh := onSome_e h; clear h; obtain ⟨old, hv, h⟩ := hh; exact G.putf (hPL _ (look_mem ql)) rfl rfl hd q hv (hk _ _ _ _ _ _ h))
    · (have hh := popI_e h; clear h; obtain ⟨x, r, rfl, h⟩ := hh; have hh := popR_e h; clear h; obtain ⟨a, r, rfl, h⟩ := hh; have hh := obj_e h; clear h; obtain ⟨i, C, fs, rfl, q, h⟩ := hh; have hh := ifF_e h; clear h; obtain ⟨rfl, h⟩ := hh; have hh := onSome_e h; clear h; obtain ⟨old, hv, h⟩ := hh; exact G.putf (hPL _ (look_mem ql)) rfl (fits_nar_bool x) hd q hv (hk _ _ _ _ _ _ h))
    · (have hh := popA_e h; clear h; obtain ⟨x, r, rfl, hv1, hv2, h⟩ := hh; have hh := popR_e h; clear h; obtain ⟨a, r, rfl, h⟩ := hh; have hh := obj_e h; clear h; obtain ⟨i, C, fs, rfl, q, h⟩ := hh; have hh := ifF_e h; clear h; obtain ⟨rfl, h⟩ := hh; have hh := onSome_e h; clear h; obtain ⟨old, hv, h⟩ := hh; exact G.putf (hPL _ (look_mem ql)) (by cases x <;> first | rfl | cases hv1) (by cases x <;> first | rfl | cases hv1) hd q hv (hk _ _ _ _ _ _ h))
    · (have hh := popA_e h; clear h; obtain ⟨x, r, rfl, hv1, hv2, h⟩ := hh; have hh := popR_e h; clear h; obtain ⟨a, r, rfl, h⟩ := hh; have hh := obj_e h; clear h; obtain ⟨i, C, fs, rfl, q, h⟩ := hh; have hh := ifF_e h; clear h; obtain ⟨rfl, h⟩ := hh; have hh := onSome_e h; clear h; obtain ⟨old, hv, h⟩ := hh; exact G.putf (hPL _ (look_mem ql)) (by cases x <;> first | rfl | cases hv1) (by cases x <;> first | rfl | cases hv1) hd q hv (hk _ _ _ _ _ _ h))
    · exact h.elim
  · exact h
theorem G.run {S : List Nat} (n : Nat) (hCI : ∀ x ∈ CI, Jvm.Cond.constant own x.1 x.2 ∈ W) (hCL : ∀ x ∈ CL, Jvm.Cond.constantLong own x.1 x.2 ∈ W) (hFL : ∀ x ∈ FL, Jvm.Cond.fieldLink own x.1 x.2.1 x.2.2.1 x.2.2.2 ∈ W) (hAL : ∀ x ∈ AL, Jvm.Cond.arrayClass x ∈ W) (hPL : ∀ x ∈ PL, PutOk W own nm x.1 x.2.1 x.2.2.1 x.2.2.2.1 x.2.2.2.2) (hNL : ∀ x ∈ NL, NewOk W own x.1 x.2.1 x.2.2.1 x.2.2.2) :
    ∀ {pc : Nat} {ls : List Slot} {st : List Value} {H : List Cel} {cN sN : Nat}, Wn S code CI CL FL AL PL NL ret R b.size rc rs K (G code own nm maxL ret R W l Z b rc rs K) n pc ls st H cN sN → G code own nm maxL ret R W l Z b rc rs K pc ls st H cN sN := by
  induction n with
  | zero => exact fun h => h
  | succ n ih =>
    intro pc ls st H cN sN h
    unfold Wn at h
    split at h
    · exact h
    · obtain ⟨i, hi, h⟩ := onSome_e h
      exact W1_sound hCI hCL hFL hAL hPL hNL (at1_o hi).1 (at1_o hi).2 (fun _ _ _ _ _ _ q => ih q) h
/-- one step from a place at which runs stop, then a run -/
theorem G.enter {S : List Nat} (n : Nat) (hCI : ∀ x ∈ CI, Jvm.Cond.constant own x.1 x.2 ∈ W) (hCL : ∀ x ∈ CL, Jvm.Cond.constantLong own x.1 x.2 ∈ W) (hFL : ∀ x ∈ FL, Jvm.Cond.fieldLink own x.1 x.2.1 x.2.2.1 x.2.2.2 ∈ W) (hAL : ∀ x ∈ AL, Jvm.Cond.arrayClass x ∈ W) (hPL : ∀ x ∈ PL, PutOk W own nm x.1 x.2.1 x.2.2.1 x.2.2.2.1 x.2.2.2.2) (hNL : ∀ x ∈ NL, NewOk W own x.1 x.2.1 x.2.2.1 x.2.2.2) {i : Instr} {pc : Nat} {ls : List Slot} {st : List Value} {H : List Cel} {cN sN : Nat} (hi : at1 code pc = some i)
    (h : W1 CI CL FL AL PL NL ret R b.size rc rs K (G code own nm maxL ret R W l Z b rc rs K) i pc ls st H cN sN (Wn S code CI CL FL AL PL NL ret R b.size rc rs K (G code own nm maxL ret R W l Z b rc rs K) n)) : G code own nm maxL ret R W l Z b rc rs K pc ls st H cN sN :=
  W1_sound hCI hCL hFL hAL hPL hNL (at1_o hi).1 (at1_o hi).2 (fun _ _ _ _ _ _ q => G.run n hCI hCL hFL hAL hPL hNL q) h
end Sound
section Eqs
variable {CI : List (Nat × Int32)} {CL : List (Nat × Int64)} {FL : List (Nat × String × String × String)} {AL : List FieldType} {PL : List (Nat × String × String × String × FieldType)} {NL : List (Nat × String × Nat × List (String × String × Value))} {ret : Option FieldType} {R : Room} {n0 rc rs : Nat} {K : Option Value → List Cel → Prop} {g k : Cont} {pc : Nat} {ls : List Slot} {st : List Value} {H : List Cel} {cN sN : Nat} {code : ByteArray}
theorem wn_s {S : List Nat} {n : Nat} (h : pc ∉ S) : Wn S code CI CL FL AL PL NL ret R n0 rc rs K g (n + 1) pc ls st H cN sN = onSome (at1 code pc) fun i => W1 CI CL FL AL PL NL ret R n0 rc rs K g i pc ls st H cN sN (Wn S code CI CL FL AL PL NL ret R n0 rc rs K g n) := if_neg h
theorem wn_p {S : List Nat} {n : Nat} (h : pc ∈ S) : Wn S code CI CL FL AL PL NL ret R n0 rc rs K g (n + 1) pc ls st H cN sN = g pc ls st H cN sN := if_pos h
end Eqs
end Jvm.OwnKit
namespace Jvm.OwnKit
open Sem ClassFile Op Lib Jvm.Stand Jvm.Free Jvm.LawKit Jvm.RoadKit
section Calls
variable {code : ByteArray} {own nm : String} {maxL : Nat} {ret : Option FieldType} {R : Room} {W : List Jvm.Cond} {l : Launch} {Z : State} {b : Heap} {rc rs : Nat} {K : Option Value → List Cel → Prop}
variable {pc : Nat} {ls : List Slot} {st : List Value} {H : List Cel} {cN sN : Nat}
def wt (rest : List Value) : Nat := (rest.map fun v => v.category).sum
theorem G.callS {idx : Nat} {y : MethodName} {bytes : ByteArray} {mL : Nat} {rt : Option FieldType} {rm : Room} {as rest : List Value} {K' : Option Value → List Cel → Prop} {ps : List FieldType} {r : Option FieldType}
    (w1 : Jvm.Cond.methodLink own idx y ∈ W) (w2 : Jvm.Cond.static y ∈ W) (w3 : Jvm.Cond.initialized y.cls ∈ W) (w4 : Jvm.Cond.code y bytes mL rt ∈ W) (hy : y.cls ≠ "java/lang/invoke/MethodHandle" ∧ y.cls ≠ "java/lang/invoke/VarHandle") (hds : parseMethodDescriptor y.desc = some ⟨ps, r⟩)
    (C : Con W l Z b y bytes mL rt rm as H K') (hd : at1 code pc = some (.invokestatic idx)) (hst : st = as.reverse ++ rest) (hlen : as.length = ps.length) (hls : ls.length = maxL)
    (hf : rm.frames + 1 ≤ R.frames) (hlo : wt rest + (mL + 11) + rm.locals ≤ R.locals) (hc : cN + rm.cells ≤ R.cells) (hs : sN + rm.slots ≤ R.slots)
    (k : ∀ v H', K' v H' → G code own nm maxL ret R W l Z b rc rs K (pc + 3) ls (v.toList ++ rest) H' (cN + rm.cells) (sN + rm.slots)) : G code own nm maxL ret R W l Z b rc rs K pc ls st H cN sN := by
  subst hst
  intro p e s m args below meth c T locs a0 hx hcd hm hr hk hn hZ ho hw X hF hR
  obtain ⟨v, vm₁, ⟨T', L', k', n'⟩, -, X', ⟨Lc, hQ, l1, y1, z1⟩, sp⟩ := Jvm.LawKit.callS X hx (y := y) ho (mvT hZ (hw _ w1)) (mvT hZ (hw _ w2)) (mvT hZ (hw _ w3)) (mvT hZ (hw _ w4)) hy
    (backOf (W := wt rest) (Q := fun v h L => Fr b.size L ∧ ∃ H', Rep Z b h H' ∧ K' v H') (C a0 T.heap hw hR) hZ (hw _ w4) (hw _ w3) hf hlo) (g := mkF m pc ls.toArray (as.reverse ++ rest)) rfl (by rw [hm]; simpa using hls) (argsL := as) (rest := rest) (lenOf hds hlen) rfl
    (by show 2 * 0 + _ ≤ _; exact Nat.le_of_eq (Nat.zero_add _)) (hb hcd (at1_e hd)) (fun _ _ => ⟨rfl, rfl, hc, hs⟩)
  dsimp only [Pt.U, Pt.locs, Pt.cells, Pt.slots] at X' l1 y1 z1 sp hQ
  subst l1 y1 z1
  obtain ⟨hF', H', hR', hK'⟩ := hQ
  obtain ⟨s₂, o, h1, h2⟩ := k v H' hK' p e s m args below meth c T' _ a0 hx hcd hm hr hk hn hZ ho hw X' (hF.app hF') hR'
  exact ⟨s₂, o, sp _ h1, h2⟩
/-- a constructor -/
theorem G.callI {idx : Nat} {y : MethodName} {bytes : ByteArray} {mL : Nat} {rm : Room} {a : Addr} {as rest : List Value} {K' : Option Value → List Cel → Prop} {ps : List FieldType} {r : Option FieldType}
    (hnm : y.name = "<init>") (w1 : Jvm.Cond.methodLink own idx y ∈ W) (w2 : Jvm.Cond.instanceMethod y ∈ W) (w3 : Jvm.Cond.initialized y.cls ∈ W) (w4 : Jvm.Cond.code y bytes mL none ∈ W) (hy : y.cls ≠ "java/lang/invoke/MethodHandle" ∧ y.cls ≠ "java/lang/invoke/VarHandle") (hds : parseMethodDescriptor y.desc = some ⟨ps, r⟩)
    (C : Con W l Z b y bytes mL none rm (.ref a :: as) H K') (hd : at1 code pc = some (.invokespecial idx)) (hst : st = as.reverse ++ .ref a :: rest) (hlen : as.length = ps.length) (hls : ls.length = maxL)
    (hf : rm.frames + 1 ≤ R.frames) (hlo : wt rest + (mL + 11) + rm.locals ≤ R.locals) (hc : cN + rm.cells ≤ R.cells) (hs : sN + rm.slots ≤ R.slots)
    (k : ∀ v H', K' v H' → G code own nm maxL ret R W l Z b rc rs K (pc + 3) ls (v.toList ++ rest) H' (cN + rm.cells) (sN + rm.slots)) : G code own nm maxL ret R W l Z b rc rs K pc ls st H cN sN := by
  subst hst
  intro p e s m args below meth c T locs a0 hx hcd hm hr hk hn hZ ho hw X hF hR
  obtain ⟨v, vm₁, ⟨T', L', k', n'⟩, -, X', ⟨Lc, hQ, l1, y1, z1⟩, sp⟩ := X.specialBack hx (y := y) hnm ho (mvT hZ (hw _ w1)) (mvT hZ (hw _ w2)) (mvT hZ (hw _ w4)) hy
    (backOf (W := wt rest) (Q := fun v h L => Fr b.size L ∧ ∃ H', Rep Z b h H' ∧ K' v H') (C a0 T.heap hw hR) hZ (hw _ w4) (hw _ w3) hf hlo) (g := mkF m pc ls.toArray (as.reverse ++ .ref a :: rest)) rfl (by rw [hm]; simpa using hls) (Steps.refl _) (a := a) (argsL := as) (rest := rest) (lenOf hds hlen) rfl
    (by show 2 * 0 + _ ≤ _; exact Nat.le_of_eq (Nat.zero_add _)) (hb hcd (at1_e hd)) (fun _ _ => ⟨rfl, rfl, hc, hs⟩)
  dsimp only [Pt.U, Pt.locs, Pt.cells, Pt.slots] at X' l1 y1 z1 sp hQ
  subst l1 y1 z1
  obtain ⟨hF', H', hR', hK'⟩ := hQ
  obtain ⟨s₂, o, h1, h2⟩ := k v H' hK' p e s m args below meth c T' _ a0 hx hcd hm hr hk hn hZ ho hw X' (hF.app hF') hR'
  exact ⟨s₂, o, sp.trans h1, h2⟩
/-- an instance method of an object of just that class -/
theorem G.callV {idx : Nat} {y : MethodName} {bytes : ByteArray} {mL : Nat} {rt : Option FieldType} {rm : Room} {i : Nat} {fs : List (String × String × Value)} {as rest : List Value} {K' : Option Value → List Cel → Prop} {ps : List FieldType} {r : Option FieldType}
    (w1 : Jvm.Cond.methodLink own idx y ∈ W) (w2 : Jvm.Cond.declares y ∈ W) (w3 : Jvm.Cond.selects y.cls y y ∈ W) (w4 : Jvm.Cond.instanceMethod y ∈ W) (w5 : Jvm.Cond.code y bytes mL rt ∈ W) (w6 : Jvm.Cond.initialized y.cls ∈ W) (hy : y.cls ≠ "java/lang/invoke/MethodHandle" ∧ y.cls ≠ "java/lang/invoke/VarHandle") (hds : parseMethodDescriptor y.desc = some ⟨ps, r⟩)
    (hi : H[i]? = some (.inr (y.cls, fs)))
    (C : Con W l Z b y bytes mL rt rm (.ref (ad b.size i) :: as) H K') (hd : at1 code pc = some (.invokevirtual idx)) (hst : st = as.reverse ++ .ref (ad b.size i) :: rest) (hlen : as.length = ps.length) (hls : ls.length = maxL)
    (hf : rm.frames + 1 ≤ R.frames) (hlo : wt rest + (mL + 11) + rm.locals ≤ R.locals) (hc : cN + rm.cells ≤ R.cells) (hs : sN + rm.slots ≤ R.slots)
    (k : ∀ v H', K' v H' → G code own nm maxL ret R W l Z b rc rs K (pc + 3) ls (v.toList ++ rest) H' (cN + rm.cells) (sN + rm.slots)) : G code own nm maxL ret R W l Z b rc rs K pc ls st H cN sN := by
  subst hst
  intro p e s m args below meth c T locs a0 hx hcd hm hr hk hn hZ ho hw X hF hR
  obtain ⟨cq, kq, qa, qb, qc⟩ := isOf (T := T) hZ rfl (hR.2 _ _ hi).1
  obtain ⟨v, vm₁, ⟨T', L', k', n'⟩, -, X', ⟨Lc, hQ, l1, y1, z1⟩, sp⟩ := X.virtualBack hx (y := y) (z := y) ho (mvT hZ (hw _ w1)) (mvT hZ (hw _ w2)) (notFace_of_selects (args := #[]) (mvT hZ (hw _ w3))) (mvT hZ (hw _ w3)) (mvT hZ (hw _ w4)) hy
    (backOf (W := wt rest) (Q := fun v h L => Fr b.size L ∧ ∃ H', Rep Z b h H' ∧ K' v H') (C a0 T.heap hw hR) hZ (hw _ w5) (hw _ w6) hf hlo) qa qc (g := mkF m pc ls.toArray (as.reverse ++ .ref (ad b.size i) :: rest)) rfl (by rw [hm]; simpa using hls) (Steps.refl _) (argsL := as) (rest := rest) (lenOf hds hlen) rfl
    (by show 2 * 0 + _ ≤ _; exact Nat.le_of_eq (Nat.zero_add _)) (hb hcd (at1_e hd)) (fun _ _ => ⟨rfl, rfl, hc, hs⟩)
  dsimp only [Pt.U, Pt.locs, Pt.cells, Pt.slots] at X' l1 y1 z1 sp hQ
  subst l1 y1 z1
  obtain ⟨hF', H', hR', hK'⟩ := hQ
  obtain ⟨s₂, o, h1, h2⟩ := k v H' hK' p e s m args below meth c T' _ a0 hx hcd hm hr hk hn hZ ho hw X' (hF.app hF') hR'
  exact ⟨s₂, o, sp.trans h1, h2⟩
/-- Object's constructor -/
theorem G.init0 {idx : Nat} {a : Addr} {rest : List Value} (w1 : Jvm.Cond.methodLink own idx Lib.objectInit ∈ W) (w2 : Jvm.Cond.instanceMethod Lib.objectInit ∈ W) (w3 : Jvm.Cond.code Lib.objectInit ⟨#[0xb1]⟩ 1 none ∈ W)
    (hd : at1 code pc = some (.invokespecial idx)) (hls : ls.length = maxL) (hf : 1 ≤ R.frames) (hlo : wt rest + 12 ≤ R.locals)
    (k : G code own nm maxL ret R W l Z b rc rs K (pc + 3) ls rest H cN sN) : G code own nm maxL ret R W l Z b rc rs K pc ls (.ref a :: rest) H cN sN := by
  refine G.move (fun p e s m args below meth c T locs a0 hx hc hm hn hZ ho hw X hF hR => ?_) k
  obtain ⟨T', X', e1, sp⟩ := initO X hx hZ ho (hw _ w1) (hw _ w2) (hw _ w3) rfl (g := mkF m pc ls.toArray (.ref a :: rest)) rfl (by rw [hm]; simpa using hls) rfl (hb hc (at1_e hd)) hf (W := wt rest) (by show 2 * 0 + _ ≤ _; exact Nat.le_of_eq (Nat.zero_add _)) hlo
  exact ⟨T', _, X', hF, by rw [e1]; exact hR, sp⟩
/-- 'wide iinc' -/
theorem iincW {tb : Tables} [Ours tb] {e : Env} {below : List Frame} {T target : State} {m : MethodId} {c : Code} {g : JFrame} (h : At T m c below) (hx : tb.exec = Jvm.exec) (hg : g.method = m) {k : Nat} {cst : Int} {x : Int32} {l' : Array Slot} (hd : decode c.code g.pc = .ok (.iinc k cst, 6)) (hl : g.locals[k]? = some (.val (.int x))) (hl' : storeLocals g.locals k (.int (x + Int32.ofInt cst)) = some l')
    (hr : Steps tb e below (T.setTop { g with pc := g.pc + 6, locals := l' }) target) : Steps tb e below (T.setTop g) target := by
  subst hg
  jvm_step h [h.top, hx, hd, hl, hl']
  exact hr
theorem G.wideInc {j : Nat} {i : Int} {k : Cont} (hd : decode code pc = .ok (.iinc j i, 6)) (hk : ∀ pc ls st H cN sN, k pc ls st H cN sN → G code own nm maxL ret R W l Z b rc rs K pc ls st H cN sN)
    (h : ldI ls j fun v => setL ls j (.val (.int (v + Int32.ofInt i))) fun l' => k (pc + 6) l' st H cN sN) : G code own nm maxL ret R W l Z b rc rs K pc ls st H cN sN := by
  obtain ⟨v, q, h⟩ := ldI_e h
  exact G.pure (fun p e s m args below meth c T locs a0 hx hc hZ ho hw X hR tg hs => iincW X.here hx rfl (hb hc hd) (by simpa using q) (XS.store1 (by simpa using q) (Or.inr ⟨_, rfl, rfl⟩) rfl) (by simpa using hs)) (hk _ _ _ _ _ _ h)
end Calls
end Jvm.OwnKit
namespace Jvm.OwnKit
open Sem ClassFile Op Lib Jvm.Stand Jvm.Free Jvm.LawKit Jvm.RoadKit
theorem rem_toInt (x y : Int32) : (remI x y).toInt = x.toInt.tmod y.toInt := by
  have hx1 := x.toInt_lt; have hx2 := x.le_toInt
  unfold remI
  rw [Int32.toInt_sub, Int32.toInt_mul, Int32.toInt_div, Int.bmod_mul_bmod, Int.sub_bmod_bmod]
  have e : x.toInt - x.toInt.tdiv y.toInt * y.toInt = x.toInt.tmod y.toInt := by
    have := Int.tmod_add_mul_tdiv x.toInt y.toInt
    rw [Int.mul_comm] at this; omega
  rw [e]
  have b1 := Int.natAbs_tmod x.toInt y.toInt
  have b2 := Nat.mod_le x.toInt.natAbs y.toInt.natAbs
  have b3 : x.toInt < 0 → x.toInt.tmod y.toInt ≤ 0 := fun h => by
    have q := Int.tmod_nonneg y.toInt (show 0 ≤ -x.toInt by omega)
    rw [Int.neg_tmod] at q; omega
  refine Int.bmod_eq_of_le ?_ ?_
  · omega
  · by_cases q : x.toInt < 0
    · have := b3 q; omega
    · omega
theorem rem_nn {x y : Int32} (h : 0 ≤ x.toInt) : (remI x y).toInt = x.toInt % y.toInt := by rw [rem_toInt, Int.tmod_eq_emod_of_nonneg h]
theorem remJ_nn {x y : Int64} (h : 0 ≤ x.toInt) : (remJ x y).toInt = x.toInt % y.toInt := Jvm.Kit.i64_rem_nonneg h
theorem cases2 {v : Int32} (h0 : 0 ≤ v.toInt) (h1 : v.toInt < 2) : v = 0 ∨ v = 1 := by
  have q : v.toInt = 0 ∨ v.toInt = 1 := by omega
  rcases q with h | h
  · exact (Or.inl (Int32.toInt_inj.mp (h.trans (by decide : (0 : Int) = (0 : Int32).toInt))))
  · exact (Or.inr (Int32.toInt_inj.mp (h.trans (by decide : (1 : Int) = (1 : Int32).toInt))))
theorem cases3 {v : Int32} (h0 : 0 ≤ v.toInt) (h1 : v.toInt < 3) : v = 0 ∨ v = 1 ∨ v = 2 := by
  have q : v.toInt = 0 ∨ v.toInt = 1 ∨ v.toInt = 2 := by omega
  rcases q with h | h | h
  · exact (Or.inl (Int32.toInt_inj.mp (h.trans (by decide : (0 : Int) = (0 : Int32).toInt))))
  · exact (Or.inr (Or.inl (Int32.toInt_inj.mp (h.trans (by decide : (1 : Int) = (1 : Int32).toInt)))))
  · exact (Or.inr (Or.inr (Int32.toInt_inj.mp (h.trans (by decide : (2 : Int) = (2 : Int32).toInt)))))
theorem cases4 {v : Int32} (h0 : 0 ≤ v.toInt) (h1 : v.toInt < 4) : v = 0 ∨ v = 1 ∨ v = 2 ∨ v = 3 := by
  have q : v.toInt = 0 ∨ v.toInt = 1 ∨ v.toInt = 2 ∨ v.toInt = 3 := by omega
  rcases q with h | h | h | h
  · exact (Or.inl (Int32.toInt_inj.mp (h.trans (by decide : (0 : Int) = (0 : Int32).toInt))))
  · exact (Or.inr (Or.inl (Int32.toInt_inj.mp (h.trans (by decide : (1 : Int) = (1 : Int32).toInt)))))
  · exact (Or.inr (Or.inr (Or.inl (Int32.toInt_inj.mp (h.trans (by decide : (2 : Int) = (2 : Int32).toInt))))))
  · exact (Or.inr (Or.inr (Or.inr (Int32.toInt_inj.mp (h.trans (by decide : (3 : Int) = (3 : Int32).toInt))))))
theorem cases5 {v : Int32} (h0 : 0 ≤ v.toInt) (h1 : v.toInt < 5) : v = 0 ∨ v = 1 ∨ v = 2 ∨ v = 3 ∨ v = 4 := by
  have q : v.toInt = 0 ∨ v.toInt = 1 ∨ v.toInt = 2 ∨ v.toInt = 3 ∨ v.toInt = 4 := by omega
  rcases q with h | h | h | h | h
  · exact (Or.inl (Int32.toInt_inj.mp (h.trans (by decide : (0 : Int) = (0 : Int32).toInt))))
  · exact (Or.inr (Or.inl (Int32.toInt_inj.mp (h.trans (by decide : (1 : Int) = (1 : Int32).toInt)))))
  · exact (Or.inr (Or.inr (Or.inl (Int32.toInt_inj.mp (h.trans (by decide : (2 : Int) = (2 : Int32).toInt))))))
  · exact (Or.inr (Or.inr (Or.inr (Or.inl (Int32.toInt_inj.mp (h.trans (by decide : (3 : Int) = (3 : Int32).toInt)))))))
  · exact (Or.inr (Or.inr (Or.inr (Or.inr (Int32.toInt_inj.mp (h.trans (by decide : (4 : Int) = (4 : Int32).toInt)))))))
theorem cases6 {v : Int32} (h0 : 0 ≤ v.toInt) (h1 : v.toInt < 6) : v = 0 ∨ v = 1 ∨ v = 2 ∨ v = 3 ∨ v = 4 ∨ v = 5 := by
  have q : v.toInt = 0 ∨ v.toInt = 1 ∨ v.toInt = 2 ∨ v.toInt = 3 ∨ v.toInt = 4 ∨ v.toInt = 5 := by omega
  rcases q with h | h | h | h | h | h
  · exact (Or.inl (Int32.toInt_inj.mp (h.trans (by decide : (0 : Int) = (0 : Int32).toInt))))
  · exact (Or.inr (Or.inl (Int32.toInt_inj.mp (h.trans (by decide : (1 : Int) = (1 : Int32).toInt)))))
  · exact (Or.inr (Or.inr (Or.inl (Int32.toInt_inj.mp (h.trans (by decide : (2 : Int) = (2 : Int32).toInt))))))
  · exact (Or.inr (Or.inr (Or.inr (Or.inl (Int32.toInt_inj.mp (h.trans (by decide : (3 : Int) = (3 : Int32).toInt)))))))
  · exact (Or.inr (Or.inr (Or.inr (Or.inr (Or.inl (Int32.toInt_inj.mp (h.trans (by decide : (4 : Int) = (4 : Int32).toInt))))))))
  · exact (Or.inr (Or.inr (Or.inr (Or.inr (Or.inr (Int32.toInt_inj.mp (h.trans (by decide : (5 : Int) = (5 : Int32).toInt))))))))
theorem cases7 {v : Int32} (h0 : 0 ≤ v.toInt) (h1 : v.toInt < 7) : v = 0 ∨ v = 1 ∨ v = 2 ∨ v = 3 ∨ v = 4 ∨ v = 5 ∨ v = 6 := by
  have q : v.toInt = 0 ∨ v.toInt = 1 ∨ v.toInt = 2 ∨ v.toInt = 3 ∨ v.toInt = 4 ∨ v.toInt = 5 ∨ v.toInt = 6 := by omega
  rcases q with h | h | h | h | h | h | h
  · exact (Or.inl (Int32.toInt_inj.mp (h.trans (by decide : (0 : Int) = (0 : Int32).toInt))))
  · exact (Or.inr (Or.inl (Int32.toInt_inj.mp (h.trans (by decide : (1 : Int) = (1 : Int32).toInt)))))
  · exact (Or.inr (Or.inr (Or.inl (Int32.toInt_inj.mp (h.trans (by decide : (2 : Int) = (2 : Int32).toInt))))))
  · exact (Or.inr (Or.inr (Or.inr (Or.inl (Int32.toInt_inj.mp (h.trans (by decide : (3 : Int) = (3 : Int32).toInt)))))))
  · exact (Or.inr (Or.inr (Or.inr (Or.inr (Or.inl (Int32.toInt_inj.mp (h.trans (by decide : (4 : Int) = (4 : Int32).toInt))))))))
  · exact (Or.inr (Or.inr (Or.inr (Or.inr (Or.inr (Or.inl (Int32.toInt_inj.mp (h.trans (by decide : (5 : Int) = (5 : Int32).toInt)))))))))
  · exact (Or.inr (Or.inr (Or.inr (Or.inr (Or.inr (Or.inr (Int32.toInt_inj.mp (h.trans (by decide : (6 : Int) = (6 : Int32).toInt)))))))))
theorem cases8 {v : Int32} (h0 : 0 ≤ v.toInt) (h1 : v.toInt < 8) : v = 0 ∨ v = 1 ∨ v = 2 ∨ v = 3 ∨ v = 4 ∨ v = 5 ∨ v = 6 ∨ v = 7 := by
  have q : v.toInt = 0 ∨ v.toInt = 1 ∨ v.toInt = 2 ∨ v.toInt = 3 ∨ v.toInt = 4 ∨ v.toInt = 5 ∨ v.toInt = 6 ∨ v.toInt = 7 := by omega
  rcases q with h | h | h | h | h | h | h | h
  · exact (Or.inl (Int32.toInt_inj.mp (h.trans (by decide : (0 : Int) = (0 : Int32).toInt))))
  · exact (Or.inr (Or.inl (Int32.toInt_inj.mp (h.trans (by decide : (1 : Int) = (1 : Int32).toInt)))))
  · exact (Or.inr (Or.inr (Or.inl (Int32.toInt_inj.mp (h.trans (by decide : (2 : Int) = (2 : Int32).toInt))))))
  · exact (Or.inr (Or.inr (Or.inr (Or.inl (Int32.toInt_inj.mp (h.trans (by decide : (3 : Int) = (3 : Int32).toInt)))))))
  · exact (Or.inr (Or.inr (Or.inr (Or.inr (Or.inl (Int32.toInt_inj.mp (h.trans (by decide : (4 : Int) = (4 : Int32).toInt))))))))
  · exact (Or.inr (Or.inr (Or.inr (Or.inr (Or.inr (Or.inl (Int32.toInt_inj.mp (h.trans (by decide : (5 : Int) = (5 : Int32).toInt)))))))))
  · exact (Or.inr (Or.inr (Or.inr (Or.inr (Or.inr (Or.inr (Or.inl (Int32.toInt_inj.mp (h.trans (by decide : (6 : Int) = (6 : Int32).toInt))))))))))
  · exact (Or.inr (Or.inr (Or.inr (Or.inr (Or.inr (Or.inr (Or.inr (Int32.toInt_inj.mp (h.trans (by decide : (7 : Int) = (7 : Int32).toInt))))))))))
theorem cases10 {v : Int32} (h0 : 0 ≤ v.toInt) (h1 : v.toInt < 10) : v = 0 ∨ v = 1 ∨ v = 2 ∨ v = 3 ∨ v = 4 ∨ v = 5 ∨ v = 6 ∨ v = 7 ∨ v = 8 ∨ v = 9 := by
  have q : v.toInt = 0 ∨ v.toInt = 1 ∨ v.toInt = 2 ∨ v.toInt = 3 ∨ v.toInt = 4 ∨ v.toInt = 5 ∨ v.toInt = 6 ∨ v.toInt = 7 ∨ v.toInt = 8 ∨ v.toInt = 9 := by omega
  rcases q with h | h | h | h | h | h | h | h | h | h
  · exact (Or.inl (Int32.toInt_inj.mp (h.trans (by decide : (0 : Int) = (0 : Int32).toInt))))
  · exact (Or.inr (Or.inl (Int32.toInt_inj.mp (h.trans (by decide : (1 : Int) = (1 : Int32).toInt)))))
  · exact (Or.inr (Or.inr (Or.inl (Int32.toInt_inj.mp (h.trans (by decide : (2 : Int) = (2 : Int32).toInt))))))
  · exact (Or.inr (Or.inr (Or.inr (Or.inl (Int32.toInt_inj.mp (h.trans (by decide : (3 : Int) = (3 : Int32).toInt)))))))
  · exact (Or.inr (Or.inr (Or.inr (Or.inr (Or.inl (Int32.toInt_inj.mp (h.trans (by decide : (4 : Int) = (4 : Int32).toInt))))))))
  · exact (Or.inr (Or.inr (Or.inr (Or.inr (Or.inr (Or.inl (Int32.toInt_inj.mp (h.trans (by decide : (5 : Int) = (5 : Int32).toInt)))))))))
  · exact (Or.inr (Or.inr (Or.inr (Or.inr (Or.inr (Or.inr (Or.inl (Int32.toInt_inj.mp (h.trans (by decide : (6 : Int) = (6 : Int32).toInt))))))))))
  · exact (Or.inr (Or.inr (Or.inr (Or.inr (Or.inr (Or.inr (Or.inr (Or.inl (Int32.toInt_inj.mp (h.trans (by decide : (7 : Int) = (7 : Int32).toInt)))))))))))
  · exact (Or.inr (Or.inr (Or.inr (Or.inr (Or.inr (Or.inr (Or.inr (Or.inr (Or.inl (Int32.toInt_inj.mp (h.trans (by decide : (8 : Int) = (8 : Int32).toInt))))))))))))
  · exact (Or.inr (Or.inr (Or.inr (Or.inr (Or.inr (Or.inr (Or.inr (Or.inr (Or.inr (Int32.toInt_inj.mp (h.trans (by decide : (9 : Int) = (9 : Int32).toInt))))))))))))
theorem cases16 {v : Int32} (h0 : 0 ≤ v.toInt) (h1 : v.toInt < 16) : v = 0 ∨ v = 1 ∨ v = 2 ∨ v = 3 ∨ v = 4 ∨ v = 5 ∨ v = 6 ∨ v = 7 ∨ v = 8 ∨ v = 9 ∨ v = 10 ∨ v = 11 ∨ v = 12 ∨ v = 13 ∨ v = 14 ∨ v = 15 := by
  have q : v.toInt = 0 ∨ v.toInt = 1 ∨ v.toInt = 2 ∨ v.toInt = 3 ∨ v.toInt = 4 ∨ v.toInt = 5 ∨ v.toInt = 6 ∨ v.toInt = 7 ∨ v.toInt = 8 ∨ v.toInt = 9 ∨ v.toInt = 10 ∨ v.toInt = 11 ∨ v.toInt = 12 ∨ v.toInt = 13 ∨ v.toInt = 14 ∨ v.toInt = 15 := by omega
  rcases q with h | h | h | h | h | h | h | h | h | h | h | h | h | h | h | h
  · exact (Or.inl (Int32.toInt_inj.mp (h.trans (by decide : (0 : Int) = (0 : Int32).toInt))))
  · exact (Or.inr (Or.inl (Int32.toInt_inj.mp (h.trans (by decide : (1 : Int) = (1 : Int32).toInt)))))
  · exact (Or.inr (Or.inr (Or.inl (Int32.toInt_inj.mp (h.trans (by decide : (2 : Int) = (2 : Int32).toInt))))))
  · exact (Or.inr (Or.inr (Or.inr (Or.inl (Int32.toInt_inj.mp (h.trans (by decide : (3 : Int) = (3 : Int32).toInt)))))))
  · exact (Or.inr (Or.inr (Or.inr (Or.inr (Or.inl (Int32.toInt_inj.mp (h.trans (by decide : (4 : Int) = (4 : Int32).toInt))))))))
  · exact (Or.inr (Or.inr (Or.inr (Or.inr (Or.inr (Or.inl (Int32.toInt_inj.mp (h.trans (by decide : (5 : Int) = (5 : Int32).toInt)))))))))
  · exact (Or.inr (Or.inr (Or.inr (Or.inr (Or.inr (Or.inr (Or.inl (Int32.toInt_inj.mp (h.trans (by decide : (6 : Int) = (6 : Int32).toInt))))))))))
  · exact (Or.inr (Or.inr (Or.inr (Or.inr (Or.inr (Or.inr (Or.inr (Or.inl (Int32.toInt_inj.mp (h.trans (by decide : (7 : Int) = (7 : Int32).toInt)))))))))))
  · exact (Or.inr (Or.inr (Or.inr (Or.inr (Or.inr (Or.inr (Or.inr (Or.inr (Or.inl (Int32.toInt_inj.mp (h.trans (by decide : (8 : Int) = (8 : Int32).toInt))))))))))))
  · exact (Or.inr (Or.inr (Or.inr (Or.inr (Or.inr (Or.inr (Or.inr (Or.inr (Or.inr (Or.inl (Int32.toInt_inj.mp (h.trans (by decide : (9 : Int) = (9 : Int32).toInt)))))))))))))
  · exact (Or.inr (Or.inr (Or.inr (Or.inr (Or.inr (Or.inr (Or.inr (Or.inr (Or.inr (Or.inr (Or.inl (Int32.toInt_inj.mp (h.trans (by decide : (10 : Int) = (10 : Int32).toInt))))))))))))))
  · exact (Or.inr (Or.inr (Or.inr (Or.inr (Or.inr (Or.inr (Or.inr (Or.inr (Or.inr (Or.inr (Or.inr (Or.inl (Int32.toInt_inj.mp (h.trans (by decide : (11 : Int) = (11 : Int32).toInt)))))))))))))))
  · exact (Or.inr (Or.inr (Or.inr (Or.inr (Or.inr (Or.inr (Or.inr (Or.inr (Or.inr (Or.inr (Or.inr (Or.inr (Or.inl (Int32.toInt_inj.mp (h.trans (by decide : (12 : Int) = (12 : Int32).toInt))))))))))))))))
  · exact (Or.inr (Or.inr (Or.inr (Or.inr (Or.inr (Or.inr (Or.inr (Or.inr (Or.inr (Or.inr (Or.inr (Or.inr (Or.inr (Or.inl (Int32.toInt_inj.mp (h.trans (by decide : (13 : Int) = (13 : Int32).toInt)))))))))))))))))
  · exact (Or.inr (Or.inr (Or.inr (Or.inr (Or.inr (Or.inr (Or.inr (Or.inr (Or.inr (Or.inr (Or.inr (Or.inr (Or.inr (Or.inr (Or.inl (Int32.toInt_inj.mp (h.trans (by decide : (14 : Int) = (14 : Int32).toInt))))))))))))))))))
  · exact (Or.inr (Or.inr (Or.inr (Or.inr (Or.inr (Or.inr (Or.inr (Or.inr (Or.inr (Or.inr (Or.inr (Or.inr (Or.inr (Or.inr (Or.inr (Int32.toInt_inj.mp (h.trans (by decide : (15 : Int) = (15 : Int32).toInt))))))))))))))))))
theorem onat {n : Nat} (h : n < 2147483648) : (Int32.ofNat n).toInt = n := Int32.toInt_ofNat_of_lt h
theorem onat_lt {n m : Nat} (hn : n < 2147483648) (hm : m < 2147483648) : (Int32.ofNat n < Int32.ofNat m) = (n < m) := by
  rw [Int32.lt_iff_toInt_lt, onat hn, onat hm]; exact propext ⟨fun h => by omega, fun h => by omega⟩
theorem onat_nn {n : Nat} (h : n < 2147483648) : (Int32.ofNat n < 0) = False := by
  have z : (0 : Int32).toInt = 0 := rfl
  rw [Int32.lt_iff_toInt_lt, onat h, z]; exact propext ⟨fun h => by omega, False.elim⟩
theorem onat_nat {n : Nat} (h : n < 2147483648) : (Int32.ofNat n).toNatClampNeg = n := by
  rw [Int32.toNatClampNeg, onat h]; rfl
theorem onat_succ (n : Nat) : Int32.ofNat n + 1 = Int32.ofNat (n + 1) := (Int32.ofNat_add n 1).symm
/-- an array of ints (or narrower): its n-th value -/
def ivs (xs : List Int32) : List Value := xs.map Value.int
theorem ivs_c {x : Int32} {xs : List Int32} : ivs (x :: xs) = .int x :: ivs xs := rfl
theorem ivs_n : ivs [] = [] := rfl
theorem ivs_len (xs : List Int32) : (ivs xs).length = xs.length := by simp [ivs]
theorem idx_at {pre suf : List Int32} {x : Int32} {f : Value → Prop} (h : pre.length < 2147483648) : idx (ivs (pre ++ x :: suf)) (Int32.ofNat pre.length) f = f (.int x) := by
  rw [idx_c, if_neg (by rw [onat_nn h]; exact id), onat_nat h]
  simp [idxN, ivs]
end Jvm.OwnKit
namespace Jvm.OwnKit
theorem a32 {x q : Int32} {c : Int} (hq : q.toInt = c) (h1 : -2 ^ 31 ≤ x.toInt + c) (h2 : x.toInt + c < 2 ^ 31) : (x + q).toInt = x.toInt + c := by subst hq; exact Jvm.Kit.i32_add h1 h2
theorem s32 {x q : Int32} {c : Int} (hq : q.toInt = c) (h1 : -2 ^ 31 ≤ x.toInt - c) (h2 : x.toInt - c < 2 ^ 31) : (x - q).toInt = x.toInt - c := by subst hq; exact Jvm.Kit.i32_sub h1 h2
theorem m32 {x q : Int32} {c : Int} (hq : q.toInt = c) (h1 : -2 ^ 31 ≤ x.toInt * c) (h2 : x.toInt * c < 2 ^ 31) : (x * q).toInt = x.toInt * c := by subst hq; exact Jvm.Kit.i32_mul h1 h2
theorem d32 {x q : Int32} {c : Int} (hq : q.toInt = c) (h1 : 0 ≤ x.toInt) (h2 : 0 < c) : (x / q).toInt = x.toInt / c := by
  subst hq; rw [Jvm.Kit.i32_div (by omega), Int.tdiv_eq_ediv_of_nonneg h1]
theorem a64 {x q : Int64} {c : Int} (hq : q.toInt = c) (h1 : -2 ^ 63 ≤ x.toInt + c) (h2 : x.toInt + c < 2 ^ 63) : (x + q).toInt = x.toInt + c := by subst hq; exact Jvm.Kit.i64_add h1 h2
theorem s64 {x q : Int64} {c : Int} (hq : q.toInt = c) (h1 : -2 ^ 63 ≤ x.toInt - c) (h2 : x.toInt - c < 2 ^ 63) : (x - q).toInt = x.toInt - c := by subst hq; exact Jvm.Kit.i64_sub h1 h2
theorem m64 {x q : Int64} {c : Int} (hq : q.toInt = c) (h1 : -2 ^ 63 ≤ x.toInt * c) (h2 : x.toInt * c < 2 ^ 63) : (x * q).toInt = x.toInt * c := by subst hq; exact Jvm.Kit.i64_mul h1 h2
theorem d64 {x q : Int64} {c : Int} (hq : q.toInt = c) (h1 : 0 ≤ x.toInt) (h2 : 0 < c) : (x / q).toInt = x.toInt / c := by
  subst hq; rw [Jvm.Kit.i64_div (by omega), Int.tdiv_eq_ediv_of_nonneg h1]
end Jvm.OwnKit
namespace Jvm.OwnKit
/-- a place of a list, by a natural index -/
theorem idx_lt {vs : List Value} {n : Nat} {v : Value} {f : Value → Prop} (h : n < 2147483648) (hv : vs[n]? = some v) : idx vs (Int32.ofNat n) f = f v := by
  rw [idx_c, if_neg (by rw [onat_nn h]; exact id), onat_nat h]
  simp [idxN, hv]
theorem idx_ig {vs : List Value} {n : Nat} {P : Prop} (h : n < 2147483648) (hv : n < vs.length) : idx vs (Int32.ofNat n) (fun _ => P) = P :=
  idx_lt h (List.getElem?_eq_getElem hv)
theorem repN_d {n : Nat} {v : Value} {f : List Value → Prop} : repN n v f = f (List.replicate n v) := propext Iff.rfl
theorem setN_d {vs : List Value} {n : Nat} {v : Value} {f : List Value → Prop} : setN vs n v f = f (vs.set n v) := propext Iff.rfl
end Jvm.OwnKit
namespace Jvm.OwnKit
theorem ivs_set {xs : List Int32} {n : Nat} {x : Int32} : (ivs xs).set n (.int x) = ivs (xs.set n x) := by simp [ivs, List.map_set]
theorem idx_iv {xs : List Int32} {n : Nat} {P : Prop} (h : n < 2147483648) (hv : n < xs.length) : idx (ivs xs) (Int32.ofNat n) (fun _ => P) = P := idx_ig h (by rw [ivs_len]; exact hv)
theorem onat_add (n m : Nat) : Int32.ofNat n + Int32.ofNat m = Int32.ofNat (n + m) := (Int32.ofNat_add n m).symm
theorem onat_2 (n : Nat) : Int32.ofNat n + 2 = Int32.ofNat (n + 2) := (Int32.ofNat_add n 2).symm
/-- a small int is a natural -/
theorem to_onat {x : Int32} {m : Nat} (h0 : 0 ≤ x.toInt) (h1 : x.toInt < m) : ∃ n, n < m ∧ x = Int32.ofNat n := by
  have hl := x.toInt_lt
  exact ⟨x.toInt.toNat, by omega, Int32.toInt_inj.mp (by rw [onat (by omega)]; omega)⟩
end Jvm.OwnKit
namespace Jvm.OwnKit
open Sem ClassFile Op Lib Jvm.Stand Jvm.Free Jvm.LawKit Jvm.RoadKit
/-! the machine's equations, bundled -/
theorem B0 : type_of% @popI_c ∧ type_of% @popJ_c ∧ type_of% @popR_c ∧ type_of% @pop1_i ∧ type_of% @pop1_r ∧ type_of% @pop1_n ∧ type_of% @popA_r ∧ type_of% @popA_n ∧ type_of% @ldI_z ∧ type_of% @ldJ_z ∧ type_of% @ldA_z ∧ type_of% @ldA_n ∧ type_of% @ldI_s ∧ type_of% @ldJ_s ∧ type_of% @ldA_s ∧ type_of% @sto1_u ∧ type_of% @sto1_i ∧ type_of% @sto1_r ∧ type_of% @sto1_n ∧ type_of% @sto1_s ∧ type_of% @sto2_u ∧ type_of% @sto2_l ∧ type_of% @sto2_s ∧ type_of% @arr_c ∧ type_of% @arrI_z ∧ type_of% @arrI_s ∧ type_of% @obj_c ∧ type_of% @objI_z ∧ type_of% @objI_s ∧ type_of% @setL_z ∧ type_of% @setL_s ∧ type_of% @setH_z ∧ type_of% @setH_s ∧ type_of% @snoc_z ∧ type_of% @snoc_s ∧ type_of% @onLen_0 ∧ type_of% @onLen_1 ∧ type_of% @onLen_2 ∧ type_of% @onLen_3 ∧ type_of% @onLen_4 ∧ type_of% @onSome_c ∧ type_of% @fgt_c ∧ type_of% @fst_n ∧ type_of% @fst_c := ⟨@popI_c, @popJ_c, @popR_c, @pop1_i, @pop1_r, @pop1_n, @popA_r, @popA_n, @ldI_z, @ldJ_z, @ldA_z, @ldA_n, @ldI_s, @ldJ_s, @ldA_s, @sto1_u, @sto1_i, @sto1_r, @sto1_n, @sto1_s, @sto2_u, @sto2_l, @sto2_s, @arr_c, @arrI_z, @arrI_s, @obj_c, @objI_z, @objI_s, @setL_z, @setL_s, @setH_z, @setH_s, @snoc_z, @snoc_s, @onLen_0, @onLen_1, @onLen_2, @onLen_3, @onLen_4, @onSome_c, @fgt_c, @fst_n, @fst_c⟩
theorem B1 : type_of% @nar_b0 ∧ type_of% @nar_b1 ∧ type_of% @nar_bb ∧ type_of% @nar_cc ∧ type_of% @cmpL_lt ∧ type_of% @cmpL_gt ∧ type_of% @cmpL_eq ∧ type_of% @i32_nl ∧ type_of% @i32_ng ∧ type_of% @i64_nl ∧ type_of% @i64_ng := ⟨@nar_b0, @nar_b1, @nar_bb, @nar_cc, @cmpL_lt, @cmpL_gt, @cmpL_eq, @i32_nl, @i32_ng, @i64_nl, @i64_ng⟩
end Jvm.OwnKit
namespace Jvm.Pilot.@@N@@
open Jvm Jvm.ClassFile Sem Op Lib Jvm.Free Jvm.Stand Jvm.LawKit Jvm.RoadKit Bundle Jvm.OwnKit Jvm.Pilot.@@N@@.Jvm.D
set_option maxRecDepth 65536
set_option maxHeartbeats 4000000
def G0 (l : Launch) (Z : State) (b : Heap) (K : Option Value → List Cel → Prop) : Cont := G code "com/example/rowkey/rowkey/EndedPartsEndOfPinLaw" "law" maxLocals ret room_1 tables_1 l Z b 16 128 K
def V0 (l : Launch) (Z : State) (b : Heap) (K : Option Value → List Cel → Prop) : Nat → Cont := Wn [113, 187, 221] code [] [] [] [.byte, .int] [] [] ret room_1 b.size 16 128 K (G0 l Z b K)
section Body0
variable {l : Launch} {Z : State} {b : Heap} {K : Option Value → List Cel → Prop} {q : Nat} {ls : List Slot} {st : List Value} {H : List Cel} {cN sN : Nat}
theorem r0 (q : Nat) {pc : Nat} (h : V0 l Z b K q pc ls st H cN sN) : G0 l Z b K pc ls st H cN sN := G.run q (by intro x hx; cases hx) (by intro x hx; cases hx) (by intro x hx; cases hx) (by intro x hx; simp only [List.mem_cons, List.not_mem_nil, or_false] at hx; rcases hx with rfl | rfl <;> first | exact List.mem_of_getElem? (i := 1) rfl | exact List.mem_of_getElem? (i := 0) rfl) (by intro x hx; cases hx) (by intro x hx; cases hx) h
theorem z0 {pc : Nat} : V0 l Z b K 0 pc ls st H cN sN = G0 l Z b K pc ls st H cN sN := propext Iff.rfl
theorem f0_0 : at1 code 0 = some (.iload_n 0) := at1_of at_0 rfl (by decide)
theorem s0_0 : V0 l Z b K (q + 1) 0 ls st H cN sN = (ldI ls 0 fun v => V0 l Z b K q 1 ls (.int v :: st) H cN sN) := by show Wn _ _ _ _ _ _ _ _ _ _ _ _ _ _ _ (q + 1) _ _ _ _ _ _ = _; rw [wn_s (by decide), f0_0]; rfl
theorem f0_1 : at1 code 1 = some (.bipush 7) := at1_of at_1 rfl (by decide)
theorem s0_1 : V0 l Z b K (q + 1) 1 ls st H cN sN = (V0 l Z b K q 3 ls (.int 7 :: st) H cN sN) := by show Wn _ _ _ _ _ _ _ _ _ _ _ _ _ _ _ (q + 1) _ _ _ _ _ _ = _; rw [wn_s (by decide), f0_1]; rfl
theorem f0_3 : at1 code 3 = some (.iand) := at1_of at_3 rfl (by decide)
theorem s0_3 : V0 l Z b K (q + 1) 3 ls st H cN sN = (popI st fun y r => popI r fun x r => V0 l Z b K q 4 ls (.int (x &&& y) :: r) H cN sN) := by show Wn _ _ _ _ _ _ _ _ _ _ _ _ _ _ _ (q + 1) _ _ _ _ _ _ = _; rw [wn_s (by decide), f0_3]; rfl
theorem f0_4 : at1 code 4 = some (.iconst 5) := at1_of at_4 rfl (by decide)
theorem s0_4 : V0 l Z b K (q + 1) 4 ls st H cN sN = (V0 l Z b K q 5 ls (.int 5 :: st) H cN sN) := by show Wn _ _ _ _ _ _ _ _ _ _ _ _ _ _ _ (q + 1) _ _ _ _ _ _ = _; rw [wn_s (by decide), f0_4]; rfl
theorem f0_5 : at1 code 5 = some (.irem) := at1_of at_5 rfl (by decide)
theorem s0_5 : V0 l Z b K (q + 1) 5 ls st H cN sN = (popI st fun y r => popI r fun x r => y ≠ 0 ∧ V0 l Z b K q 6 ls (.int (remI x y) :: r) H cN sN) := by show Wn _ _ _ _ _ _ _ _ _ _ _ _ _ _ _ (q + 1) _ _ _ _ _ _ = _; rw [wn_s (by decide), f0_5]; rfl
theorem f0_6 : at1 code 6 = some (.istore_n 3) := at1_of at_6 rfl (by decide)
theorem s0_6 : V0 l Z b K (q + 1) 6 ls st H cN sN = (popI st fun v r => sto1 ls 3 (.int v) fun l' => V0 l Z b K q 7 l' r H cN sN) := by show Wn _ _ _ _ _ _ _ _ _ _ _ _ _ _ _ (q + 1) _ _ _ _ _ _ = _; rw [wn_s (by decide), f0_6]; rfl
theorem f0_7 : at1 code 7 = some (.iconst 4) := at1_of at_7 rfl (by decide)
theorem s0_7 : V0 l Z b K (q + 1) 7 ls st H cN sN = (V0 l Z b K q 8 ls (.int 4 :: st) H cN sN) := by show Wn _ _ _ _ _ _ _ _ _ _ _ _ _ _ _ (q + 1) _ _ _ _ _ _ = _; rw [wn_s (by decide), f0_7]; rfl
theorem f0_8 : at1 code 8 = some (.newarray .int) := at1_of at_8 rfl (by decide)
theorem s0_8 : V0 l Z b K (q + 1) 8 ls st H cN sN = (popI st fun n r => if ¬ n < 0 ∧ .int ∈ ([.byte, .int] : List FieldType) ∧ n.toNatClampNeg ≤ 65536 ∧ cN + 1 ≤ room_1.cells ∧ sN + n.toNatClampNeg ≤ room_1.slots then onLen H fun i => repN n.toNatClampNeg (.int 0) fun vs => snoc H (.inl (.int, vs)) fun H' => V0 l Z b K q 10 ls (.ref (ad b.size i) :: r) H' (cN + 1) (sN + n.toNatClampNeg) else False) := by show Wn _ _ _ _ _ _ _ _ _ _ _ _ _ _ _ (q + 1) _ _ _ _ _ _ = _; rw [wn_s (by decide), f0_8]; rfl
theorem f0_10 : at1 code 10 = some (.astore 4) := at1_of at_10 rfl (by decide)
theorem s0_10 : V0 l Z b K (q + 1) 10 ls st H cN sN = (popA st fun v r => sto1 ls 4 v fun l' => V0 l Z b K q 12 l' r H cN sN) := by show Wn _ _ _ _ _ _ _ _ _ _ _ _ _ _ _ (q + 1) _ _ _ _ _ _ = _; rw [wn_s (by decide), f0_10]; rfl
theorem f0_12 : at1 code 12 = some (.aload 4) := at1_of at_12 rfl (by decide)
theorem s0_12 : V0 l Z b K (q + 1) 12 ls st H cN sN = (ldA ls 4 fun v => V0 l Z b K q 14 ls (v :: st) H cN sN) := by show Wn _ _ _ _ _ _ _ _ _ _ _ _ _ _ _ (q + 1) _ _ _ _ _ _ = _; rw [wn_s (by decide), f0_12]; rfl
theorem f0_14 : at1 code 14 = some (.iconst 0) := at1_of at_14 rfl (by decide)
theorem s0_14 : V0 l Z b K (q + 1) 14 ls st H cN sN = (V0 l Z b K q 15 ls (.int 0 :: st) H cN sN) := by show Wn _ _ _ _ _ _ _ _ _ _ _ _ _ _ _ (q + 1) _ _ _ _ _ _ = _; rw [wn_s (by decide), f0_14]; rfl
theorem f0_15 : at1 code 15 = some (.iload_n 0) := at1_of at_15 rfl (by decide)
theorem s0_15 : V0 l Z b K (q + 1) 15 ls st H cN sN = (ldI ls 0 fun v => V0 l Z b K q 16 ls (.int v :: st) H cN sN) := by show Wn _ _ _ _ _ _ _ _ _ _ _ _ _ _ _ (q + 1) _ _ _ _ _ _ = _; rw [wn_s (by decide), f0_15]; rfl
theorem f0_16 : at1 code 16 = some (.iconst 3) := at1_of at_16 rfl (by decide)
theorem s0_16 : V0 l Z b K (q + 1) 16 ls st H cN sN = (V0 l Z b K q 17 ls (.int 3 :: st) H cN sN) := by show Wn _ _ _ _ _ _ _ _ _ _ _ _ _ _ _ (q + 1) _ _ _ _ _ _ = _; rw [wn_s (by decide), f0_16]; rfl
theorem f0_17 : at1 code 17 = some (.iushr) := at1_of at_17 rfl (by decide)
theorem s0_17 : V0 l Z b K (q + 1) 17 ls st H cN sN = (popI st fun y r => popI r fun x r => V0 l Z b K q 18 ls (.int (XT.ushr x y) :: r) H cN sN) := by show Wn _ _ _ _ _ _ _ _ _ _ _ _ _ _ _ (q + 1) _ _ _ _ _ _ = _; rw [wn_s (by decide), f0_17]; rfl
theorem f0_18 : at1 code 18 = some (.iconst 3) := at1_of at_18 rfl (by decide)
theorem s0_18 : V0 l Z b K (q + 1) 18 ls st H cN sN = (V0 l Z b K q 19 ls (.int 3 :: st) H cN sN) := by show Wn _ _ _ _ _ _ _ _ _ _ _ _ _ _ _ (q + 1) _ _ _ _ _ _ = _; rw [wn_s (by decide), f0_18]; rfl
theorem f0_19 : at1 code 19 = some (.iand) := at1_of at_19 rfl (by decide)
theorem s0_19 : V0 l Z b K (q + 1) 19 ls st H cN sN = (popI st fun y r => popI r fun x r => V0 l Z b K q 20 ls (.int (x &&& y) :: r) H cN sN) := by show Wn _ _ _ _ _ _ _ _ _ _ _ _ _ _ _ (q + 1) _ _ _ _ _ _ = _; rw [wn_s (by decide), f0_19]; rfl
theorem f0_20 : at1 code 20 = some (.iastore) := at1_of at_20 rfl (by decide)
theorem s0_20 : V0 l Z b K (q + 1) 20 ls st H cN sN = (popI st fun x r => popI r fun j r => popR r fun a r => arr H b.size a fun i ty vs => if ty = .int then idx vs j fun _ => setN vs j.toNatClampNeg (.int x) fun vs' => setH H i (.inl (.int, vs')) fun H' => V0 l Z b K q 21 ls r H' cN sN else False) := by show Wn _ _ _ _ _ _ _ _ _ _ _ _ _ _ _ (q + 1) _ _ _ _ _ _ = _; rw [wn_s (by decide), f0_20]; rfl
theorem f0_21 : at1 code 21 = some (.aload 4) := at1_of at_21 rfl (by decide)
theorem s0_21 : V0 l Z b K (q + 1) 21 ls st H cN sN = (ldA ls 4 fun v => V0 l Z b K q 23 ls (v :: st) H cN sN) := by show Wn _ _ _ _ _ _ _ _ _ _ _ _ _ _ _ (q + 1) _ _ _ _ _ _ = _; rw [wn_s (by decide), f0_21]; rfl
theorem f0_23 : at1 code 23 = some (.iconst 1) := at1_of at_23 rfl (by decide)
theorem s0_23 : V0 l Z b K (q + 1) 23 ls st H cN sN = (V0 l Z b K q 24 ls (.int 1 :: st) H cN sN) := by show Wn _ _ _ _ _ _ _ _ _ _ _ _ _ _ _ (q + 1) _ _ _ _ _ _ = _; rw [wn_s (by decide), f0_23]; rfl
theorem f0_24 : at1 code 24 = some (.iload_n 0) := at1_of at_24 rfl (by decide)
theorem s0_24 : V0 l Z b K (q + 1) 24 ls st H cN sN = (ldI ls 0 fun v => V0 l Z b K q 25 ls (.int v :: st) H cN sN) := by show Wn _ _ _ _ _ _ _ _ _ _ _ _ _ _ _ (q + 1) _ _ _ _ _ _ = _; rw [wn_s (by decide), f0_24]; rfl
theorem f0_25 : at1 code 25 = some (.iconst 5) := at1_of at_25 rfl (by decide)
theorem s0_25 : V0 l Z b K (q + 1) 25 ls st H cN sN = (V0 l Z b K q 26 ls (.int 5 :: st) H cN sN) := by show Wn _ _ _ _ _ _ _ _ _ _ _ _ _ _ _ (q + 1) _ _ _ _ _ _ = _; rw [wn_s (by decide), f0_25]; rfl
theorem f0_26 : at1 code 26 = some (.iushr) := at1_of at_26 rfl (by decide)
theorem s0_26 : V0 l Z b K (q + 1) 26 ls st H cN sN = (popI st fun y r => popI r fun x r => V0 l Z b K q 27 ls (.int (XT.ushr x y) :: r) H cN sN) := by show Wn _ _ _ _ _ _ _ _ _ _ _ _ _ _ _ (q + 1) _ _ _ _ _ _ = _; rw [wn_s (by decide), f0_26]; rfl
theorem f0_27 : at1 code 27 = some (.iconst 3) := at1_of at_27 rfl (by decide)
theorem s0_27 : V0 l Z b K (q + 1) 27 ls st H cN sN = (V0 l Z b K q 28 ls (.int 3 :: st) H cN sN) := by show Wn _ _ _ _ _ _ _ _ _ _ _ _ _ _ _ (q + 1) _ _ _ _ _ _ = _; rw [wn_s (by decide), f0_27]; rfl
theorem f0_28 : at1 code 28 = some (.iand) := at1_of at_28 rfl (by decide)
theorem s0_28 : V0 l Z b K (q + 1) 28 ls st H cN sN = (popI st fun y r => popI r fun x r => V0 l Z b K q 29 ls (.int (x &&& y) :: r) H cN sN) := by show Wn _ _ _ _ _ _ _ _ _ _ _ _ _ _ _ (q + 1) _ _ _ _ _ _ = _; rw [wn_s (by decide), f0_28]; rfl
theorem f0_29 : at1 code 29 = some (.iastore) := at1_of at_29 rfl (by decide)
theorem s0_29 : V0 l Z b K (q + 1) 29 ls st H cN sN = (popI st fun x r => popI r fun j r => popR r fun a r => arr H b.size a fun i ty vs => if ty = .int then idx vs j fun _ => setN vs j.toNatClampNeg (.int x) fun vs' => setH H i (.inl (.int, vs')) fun H' => V0 l Z b K q 30 ls r H' cN sN else False) := by show Wn _ _ _ _ _ _ _ _ _ _ _ _ _ _ _ (q + 1) _ _ _ _ _ _ = _; rw [wn_s (by decide), f0_29]; rfl
theorem f0_30 : at1 code 30 = some (.aload 4) := at1_of at_30 rfl (by decide)
theorem s0_30 : V0 l Z b K (q + 1) 30 ls st H cN sN = (ldA ls 4 fun v => V0 l Z b K q 32 ls (v :: st) H cN sN) := by show Wn _ _ _ _ _ _ _ _ _ _ _ _ _ _ _ (q + 1) _ _ _ _ _ _ = _; rw [wn_s (by decide), f0_30]; rfl
theorem f0_32 : at1 code 32 = some (.iconst 2) := at1_of at_32 rfl (by decide)
theorem s0_32 : V0 l Z b K (q + 1) 32 ls st H cN sN = (V0 l Z b K q 33 ls (.int 2 :: st) H cN sN) := by show Wn _ _ _ _ _ _ _ _ _ _ _ _ _ _ _ (q + 1) _ _ _ _ _ _ = _; rw [wn_s (by decide), f0_32]; rfl
theorem f0_33 : at1 code 33 = some (.iload_n 0) := at1_of at_33 rfl (by decide)
theorem s0_33 : V0 l Z b K (q + 1) 33 ls st H cN sN = (ldI ls 0 fun v => V0 l Z b K q 34 ls (.int v :: st) H cN sN) := by show Wn _ _ _ _ _ _ _ _ _ _ _ _ _ _ _ (q + 1) _ _ _ _ _ _ = _; rw [wn_s (by decide), f0_33]; rfl
theorem f0_34 : at1 code 34 = some (.bipush 7) := at1_of at_34 rfl (by decide)
theorem s0_34 : V0 l Z b K (q + 1) 34 ls st H cN sN = (V0 l Z b K q 36 ls (.int 7 :: st) H cN sN) := by show Wn _ _ _ _ _ _ _ _ _ _ _ _ _ _ _ (q + 1) _ _ _ _ _ _ = _; rw [wn_s (by decide), f0_34]; rfl
theorem f0_36 : at1 code 36 = some (.iushr) := at1_of at_36 rfl (by decide)
theorem s0_36 : V0 l Z b K (q + 1) 36 ls st H cN sN = (popI st fun y r => popI r fun x r => V0 l Z b K q 37 ls (.int (XT.ushr x y) :: r) H cN sN) := by show Wn _ _ _ _ _ _ _ _ _ _ _ _ _ _ _ (q + 1) _ _ _ _ _ _ = _; rw [wn_s (by decide), f0_36]; rfl
theorem f0_37 : at1 code 37 = some (.iconst 3) := at1_of at_37 rfl (by decide)
theorem s0_37 : V0 l Z b K (q + 1) 37 ls st H cN sN = (V0 l Z b K q 38 ls (.int 3 :: st) H cN sN) := by show Wn _ _ _ _ _ _ _ _ _ _ _ _ _ _ _ (q + 1) _ _ _ _ _ _ = _; rw [wn_s (by decide), f0_37]; rfl
theorem f0_38 : at1 code 38 = some (.iand) := at1_of at_38 rfl (by decide)
theorem s0_38 : V0 l Z b K (q + 1) 38 ls st H cN sN = (popI st fun y r => popI r fun x r => V0 l Z b K q 39 ls (.int (x &&& y) :: r) H cN sN) := by show Wn _ _ _ _ _ _ _ _ _ _ _ _ _ _ _ (q + 1) _ _ _ _ _ _ = _; rw [wn_s (by decide), f0_38]; rfl
theorem f0_39 : at1 code 39 = some (.iastore) := at1_of at_39 rfl (by decide)
theorem s0_39 : V0 l Z b K (q + 1) 39 ls st H cN sN = (popI st fun x r => popI r fun j r => popR r fun a r => arr H b.size a fun i ty vs => if ty = .int then idx vs j fun _ => setN vs j.toNatClampNeg (.int x) fun vs' => setH H i (.inl (.int, vs')) fun H' => V0 l Z b K q 40 ls r H' cN sN else False) := by show Wn _ _ _ _ _ _ _ _ _ _ _ _ _ _ _ (q + 1) _ _ _ _ _ _ = _; rw [wn_s (by decide), f0_39]; rfl
theorem f0_40 : at1 code 40 = some (.aload 4) := at1_of at_40 rfl (by decide)
theorem s0_40 : V0 l Z b K (q + 1) 40 ls st H cN sN = (ldA ls 4 fun v => V0 l Z b K q 42 ls (v :: st) H cN sN) := by show Wn _ _ _ _ _ _ _ _ _ _ _ _ _ _ _ (q + 1) _ _ _ _ _ _ = _; rw [wn_s (by decide), f0_40]; rfl
theorem f0_42 : at1 code 42 = some (.iconst 3) := at1_of at_42 rfl (by decide)
theorem s0_42 : V0 l Z b K (q + 1) 42 ls st H cN sN = (V0 l Z b K q 43 ls (.int 3 :: st) H cN sN) := by show Wn _ _ _ _ _ _ _ _ _ _ _ _ _ _ _ (q + 1) _ _ _ _ _ _ = _; rw [wn_s (by decide), f0_42]; rfl
theorem f0_43 : at1 code 43 = some (.iload_n 0) := at1_of at_43 rfl (by decide)
theorem s0_43 : V0 l Z b K (q + 1) 43 ls st H cN sN = (ldI ls 0 fun v => V0 l Z b K q 44 ls (.int v :: st) H cN sN) := by show Wn _ _ _ _ _ _ _ _ _ _ _ _ _ _ _ (q + 1) _ _ _ _ _ _ = _; rw [wn_s (by decide), f0_43]; rfl
theorem f0_44 : at1 code 44 = some (.bipush 9) := at1_of at_44 rfl (by decide)
theorem s0_44 : V0 l Z b K (q + 1) 44 ls st H cN sN = (V0 l Z b K q 46 ls (.int 9 :: st) H cN sN) := by show Wn _ _ _ _ _ _ _ _ _ _ _ _ _ _ _ (q + 1) _ _ _ _ _ _ = _; rw [wn_s (by decide), f0_44]; rfl
theorem f0_46 : at1 code 46 = some (.iushr) := at1_of at_46 rfl (by decide)
theorem s0_46 : V0 l Z b K (q + 1) 46 ls st H cN sN = (popI st fun y r => popI r fun x r => V0 l Z b K q 47 ls (.int (XT.ushr x y) :: r) H cN sN) := by show Wn _ _ _ _ _ _ _ _ _ _ _ _ _ _ _ (q + 1) _ _ _ _ _ _ = _; rw [wn_s (by decide), f0_46]; rfl
theorem f0_47 : at1 code 47 = some (.iconst 3) := at1_of at_47 rfl (by decide)
theorem s0_47 : V0 l Z b K (q + 1) 47 ls st H cN sN = (V0 l Z b K q 48 ls (.int 3 :: st) H cN sN) := by show Wn _ _ _ _ _ _ _ _ _ _ _ _ _ _ _ (q + 1) _ _ _ _ _ _ = _; rw [wn_s (by decide), f0_47]; rfl
theorem f0_48 : at1 code 48 = some (.iand) := at1_of at_48 rfl (by decide)
theorem s0_48 : V0 l Z b K (q + 1) 48 ls st H cN sN = (popI st fun y r => popI r fun x r => V0 l Z b K q 49 ls (.int (x &&& y) :: r) H cN sN) := by show Wn _ _ _ _ _ _ _ _ _ _ _ _ _ _ _ (q + 1) _ _ _ _ _ _ = _; rw [wn_s (by decide), f0_48]; rfl
theorem f0_49 : at1 code 49 = some (.iastore) := at1_of at_49 rfl (by decide)
theorem s0_49 : V0 l Z b K (q + 1) 49 ls st H cN sN = (popI st fun x r => popI r fun j r => popR r fun a r => arr H b.size a fun i ty vs => if ty = .int then idx vs j fun _ => setN vs j.toNatClampNeg (.int x) fun vs' => setH H i (.inl (.int, vs')) fun H' => V0 l Z b K q 50 ls r H' cN sN else False) := by show Wn _ _ _ _ _ _ _ _ _ _ _ _ _ _ _ (q + 1) _ _ _ _ _ _ = _; rw [wn_s (by decide), f0_49]; rfl
theorem f0_50 : at1 code 50 = some (.iload_n 0) := at1_of at_50 rfl (by decide)
theorem s0_50 : V0 l Z b K (q + 1) 50 ls st H cN sN = (ldI ls 0 fun v => V0 l Z b K q 51 ls (.int v :: st) H cN sN) := by show Wn _ _ _ _ _ _ _ _ _ _ _ _ _ _ _ (q + 1) _ _ _ _ _ _ = _; rw [wn_s (by decide), f0_50]; rfl
theorem f0_51 : at1 code 51 = some (.bipush 11) := at1_of at_51 rfl (by decide)
theorem s0_51 : V0 l Z b K (q + 1) 51 ls st H cN sN = (V0 l Z b K q 53 ls (.int 11 :: st) H cN sN) := by show Wn _ _ _ _ _ _ _ _ _ _ _ _ _ _ _ (q + 1) _ _ _ _ _ _ = _; rw [wn_s (by decide), f0_51]; rfl
theorem f0_53 : at1 code 53 = some (.iushr) := at1_of at_53 rfl (by decide)
theorem s0_53 : V0 l Z b K (q + 1) 53 ls st H cN sN = (popI st fun y r => popI r fun x r => V0 l Z b K q 54 ls (.int (XT.ushr x y) :: r) H cN sN) := by show Wn _ _ _ _ _ _ _ _ _ _ _ _ _ _ _ (q + 1) _ _ _ _ _ _ = _; rw [wn_s (by decide), f0_53]; rfl
theorem f0_54 : at1 code 54 = some (.iconst 1) := at1_of at_54 rfl (by decide)
theorem s0_54 : V0 l Z b K (q + 1) 54 ls st H cN sN = (V0 l Z b K q 55 ls (.int 1 :: st) H cN sN) := by show Wn _ _ _ _ _ _ _ _ _ _ _ _ _ _ _ (q + 1) _ _ _ _ _ _ = _; rw [wn_s (by decide), f0_54]; rfl
theorem f0_55 : at1 code 55 = some (.iand) := at1_of at_55 rfl (by decide)
theorem s0_55 : V0 l Z b K (q + 1) 55 ls st H cN sN = (popI st fun y r => popI r fun x r => V0 l Z b K q 56 ls (.int (x &&& y) :: r) H cN sN) := by show Wn _ _ _ _ _ _ _ _ _ _ _ _ _ _ _ (q + 1) _ _ _ _ _ _ = _; rw [wn_s (by decide), f0_55]; rfl
theorem f0_56 : at1 code 56 = some (.istore 5) := at1_of at_56 rfl (by decide)
theorem s0_56 : V0 l Z b K (q + 1) 56 ls st H cN sN = (popI st fun v r => sto1 ls 5 (.int v) fun l' => V0 l Z b K q 58 l' r H cN sN) := by show Wn _ _ _ _ _ _ _ _ _ _ _ _ _ _ _ (q + 1) _ _ _ _ _ _ = _; rw [wn_s (by decide), f0_56]; rfl
theorem f0_58 : at1 code 58 = some (.iload_n 0) := at1_of at_58 rfl (by decide)
theorem s0_58 : V0 l Z b K (q + 1) 58 ls st H cN sN = (ldI ls 0 fun v => V0 l Z b K q 59 ls (.int v :: st) H cN sN) := by show Wn _ _ _ _ _ _ _ _ _ _ _ _ _ _ _ (q + 1) _ _ _ _ _ _ = _; rw [wn_s (by decide), f0_58]; rfl
theorem f0_59 : at1 code 59 = some (.bipush 12) := at1_of at_59 rfl (by decide)
theorem s0_59 : V0 l Z b K (q + 1) 59 ls st H cN sN = (V0 l Z b K q 61 ls (.int 12 :: st) H cN sN) := by show Wn _ _ _ _ _ _ _ _ _ _ _ _ _ _ _ (q + 1) _ _ _ _ _ _ = _; rw [wn_s (by decide), f0_59]; rfl
theorem f0_61 : at1 code 61 = some (.iushr) := at1_of at_61 rfl (by decide)
theorem s0_61 : V0 l Z b K (q + 1) 61 ls st H cN sN = (popI st fun y r => popI r fun x r => V0 l Z b K q 62 ls (.int (XT.ushr x y) :: r) H cN sN) := by show Wn _ _ _ _ _ _ _ _ _ _ _ _ _ _ _ (q + 1) _ _ _ _ _ _ = _; rw [wn_s (by decide), f0_61]; rfl
theorem f0_62 : at1 code 62 = some (.iconst 3) := at1_of at_62 rfl (by decide)
theorem s0_62 : V0 l Z b K (q + 1) 62 ls st H cN sN = (V0 l Z b K q 63 ls (.int 3 :: st) H cN sN) := by show Wn _ _ _ _ _ _ _ _ _ _ _ _ _ _ _ (q + 1) _ _ _ _ _ _ = _; rw [wn_s (by decide), f0_62]; rfl
theorem f0_63 : at1 code 63 = some (.iand) := at1_of at_63 rfl (by decide)
theorem s0_63 : V0 l Z b K (q + 1) 63 ls st H cN sN = (popI st fun y r => popI r fun x r => V0 l Z b K q 64 ls (.int (x &&& y) :: r) H cN sN) := by show Wn _ _ _ _ _ _ _ _ _ _ _ _ _ _ _ (q + 1) _ _ _ _ _ _ = _; rw [wn_s (by decide), f0_63]; rfl
theorem f0_64 : at1 code 64 = some (.iconst 3) := at1_of at_64 rfl (by decide)
theorem s0_64 : V0 l Z b K (q + 1) 64 ls st H cN sN = (V0 l Z b K q 65 ls (.int 3 :: st) H cN sN) := by show Wn _ _ _ _ _ _ _ _ _ _ _ _ _ _ _ (q + 1) _ _ _ _ _ _ = _; rw [wn_s (by decide), f0_64]; rfl
theorem f0_65 : at1 code 65 = some (.irem) := at1_of at_65 rfl (by decide)
theorem s0_65 : V0 l Z b K (q + 1) 65 ls st H cN sN = (popI st fun y r => popI r fun x r => y ≠ 0 ∧ V0 l Z b K q 66 ls (.int (remI x y) :: r) H cN sN) := by show Wn _ _ _ _ _ _ _ _ _ _ _ _ _ _ _ (q + 1) _ _ _ _ _ _ = _; rw [wn_s (by decide), f0_65]; rfl
theorem f0_66 : at1 code 66 = some (.istore 6) := at1_of at_66 rfl (by decide)
theorem s0_66 : V0 l Z b K (q + 1) 66 ls st H cN sN = (popI st fun v r => sto1 ls 6 (.int v) fun l' => V0 l Z b K q 68 l' r H cN sN) := by show Wn _ _ _ _ _ _ _ _ _ _ _ _ _ _ _ (q + 1) _ _ _ _ _ _ = _; rw [wn_s (by decide), f0_66]; rfl
theorem f0_68 : at1 code 68 = some (.iconst 4) := at1_of at_68 rfl (by decide)
theorem s0_68 : V0 l Z b K (q + 1) 68 ls st H cN sN = (V0 l Z b K q 69 ls (.int 4 :: st) H cN sN) := by show Wn _ _ _ _ _ _ _ _ _ _ _ _ _ _ _ (q + 1) _ _ _ _ _ _ = _; rw [wn_s (by decide), f0_68]; rfl
theorem f0_69 : at1 code 69 = some (.newarray .byte) := at1_of at_69 rfl (by decide)
theorem s0_69 : V0 l Z b K (q + 1) 69 ls st H cN sN = (popI st fun n r => if ¬ n < 0 ∧ .byte ∈ ([.byte, .int] : List FieldType) ∧ n.toNatClampNeg ≤ 65536 ∧ cN + 1 ≤ room_1.cells ∧ sN + n.toNatClampNeg ≤ room_1.slots then onLen H fun i => repN n.toNatClampNeg (.int 0) fun vs => snoc H (.inl (.byte, vs)) fun H' => V0 l Z b K q 71 ls (.ref (ad b.size i) :: r) H' (cN + 1) (sN + n.toNatClampNeg) else False) := by show Wn _ _ _ _ _ _ _ _ _ _ _ _ _ _ _ (q + 1) _ _ _ _ _ _ = _; rw [wn_s (by decide), f0_69]; rfl
theorem f0_71 : at1 code 71 = some (.astore 7) := at1_of at_71 rfl (by decide)
theorem s0_71 : V0 l Z b K (q + 1) 71 ls st H cN sN = (popA st fun v r => sto1 ls 7 v fun l' => V0 l Z b K q 73 l' r H cN sN) := by show Wn _ _ _ _ _ _ _ _ _ _ _ _ _ _ _ (q + 1) _ _ _ _ _ _ = _; rw [wn_s (by decide), f0_71]; rfl
theorem f0_73 : at1 code 73 = some (.aload 7) := at1_of at_73 rfl (by decide)
theorem s0_73 : V0 l Z b K (q + 1) 73 ls st H cN sN = (ldA ls 7 fun v => V0 l Z b K q 75 ls (v :: st) H cN sN) := by show Wn _ _ _ _ _ _ _ _ _ _ _ _ _ _ _ (q + 1) _ _ _ _ _ _ = _; rw [wn_s (by decide), f0_73]; rfl
theorem f0_75 : at1 code 75 = some (.iconst 0) := at1_of at_75 rfl (by decide)
theorem s0_75 : V0 l Z b K (q + 1) 75 ls st H cN sN = (V0 l Z b K q 76 ls (.int 0 :: st) H cN sN) := by show Wn _ _ _ _ _ _ _ _ _ _ _ _ _ _ _ (q + 1) _ _ _ _ _ _ = _; rw [wn_s (by decide), f0_75]; rfl
theorem f0_76 : at1 code 76 = some (.lload_n 1) := at1_of at_76 rfl (by decide)
theorem s0_76 : V0 l Z b K (q + 1) 76 ls st H cN sN = (ldJ ls 1 fun v => V0 l Z b K q 77 ls (.long v :: st) H cN sN) := by show Wn _ _ _ _ _ _ _ _ _ _ _ _ _ _ _ (q + 1) _ _ _ _ _ _ = _; rw [wn_s (by decide), f0_76]; rfl
theorem f0_77 : at1 code 77 = some (.bipush 16) := at1_of at_77 rfl (by decide)
theorem s0_77 : V0 l Z b K (q + 1) 77 ls st H cN sN = (V0 l Z b K q 79 ls (.int 16 :: st) H cN sN) := by show Wn _ _ _ _ _ _ _ _ _ _ _ _ _ _ _ (q + 1) _ _ _ _ _ _ = _; rw [wn_s (by decide), f0_77]; rfl
theorem f0_79 : at1 code 79 = some (.lushr) := at1_of at_79 rfl (by decide)
theorem s0_79 : V0 l Z b K (q + 1) 79 ls st H cN sN = (popI st fun y r => popJ r fun x r => V0 l Z b K q 80 ls (.long (XT.ushrL x y) :: r) H cN sN) := by show Wn _ _ _ _ _ _ _ _ _ _ _ _ _ _ _ (q + 1) _ _ _ _ _ _ = _; rw [wn_s (by decide), f0_79]; rfl
theorem f0_80 : at1 code 80 = some (.l2i) := at1_of at_80 rfl (by decide)
theorem s0_80 : V0 l Z b K (q + 1) 80 ls st H cN sN = (popJ st fun x r => V0 l Z b K q 81 ls (.int (x.toInt32) :: r) H cN sN) := by show Wn _ _ _ _ _ _ _ _ _ _ _ _ _ _ _ (q + 1) _ _ _ _ _ _ = _; rw [wn_s (by decide), f0_80]; rfl
theorem f0_81 : at1 code 81 = some (.i2b) := at1_of at_81 rfl (by decide)
theorem s0_81 : V0 l Z b K (q + 1) 81 ls st H cN sN = (popI st fun x r => V0 l Z b K q 82 ls (.int (nar .byte x) :: r) H cN sN) := by show Wn _ _ _ _ _ _ _ _ _ _ _ _ _ _ _ (q + 1) _ _ _ _ _ _ = _; rw [wn_s (by decide), f0_81]; rfl
theorem f0_82 : at1 code 82 = some (.bastore) := at1_of at_82 rfl (by decide)
theorem s0_82 : V0 l Z b K (q + 1) 82 ls st H cN sN = (popI st fun x r => popI r fun j r => popR r fun a r => arr H b.size a fun i ty vs => if ty = .byte then idx vs j fun _ => setN vs j.toNatClampNeg (.int (nar .byte x)) fun vs' => setH H i (.inl (.byte, vs')) fun H' => V0 l Z b K q 83 ls r H' cN sN else False) := by show Wn _ _ _ _ _ _ _ _ _ _ _ _ _ _ _ (q + 1) _ _ _ _ _ _ = _; rw [wn_s (by decide), f0_82]; rfl
theorem f0_83 : at1 code 83 = some (.aload 7) := at1_of at_83 rfl (by decide)
theorem s0_83 : V0 l Z b K (q + 1) 83 ls st H cN sN = (ldA ls 7 fun v => V0 l Z b K q 85 ls (v :: st) H cN sN) := by show Wn _ _ _ _ _ _ _ _ _ _ _ _ _ _ _ (q + 1) _ _ _ _ _ _ = _; rw [wn_s (by decide), f0_83]; rfl
theorem f0_85 : at1 code 85 = some (.iconst 1) := at1_of at_85 rfl (by decide)
theorem s0_85 : V0 l Z b K (q + 1) 85 ls st H cN sN = (V0 l Z b K q 86 ls (.int 1 :: st) H cN sN) := by show Wn _ _ _ _ _ _ _ _ _ _ _ _ _ _ _ (q + 1) _ _ _ _ _ _ = _; rw [wn_s (by decide), f0_85]; rfl
theorem f0_86 : at1 code 86 = some (.lload_n 1) := at1_of at_86 rfl (by decide)
theorem s0_86 : V0 l Z b K (q + 1) 86 ls st H cN sN = (ldJ ls 1 fun v => V0 l Z b K q 87 ls (.long v :: st) H cN sN) := by show Wn _ _ _ _ _ _ _ _ _ _ _ _ _ _ _ (q + 1) _ _ _ _ _ _ = _; rw [wn_s (by decide), f0_86]; rfl
theorem f0_87 : at1 code 87 = some (.bipush 24) := at1_of at_87 rfl (by decide)
theorem s0_87 : V0 l Z b K (q + 1) 87 ls st H cN sN = (V0 l Z b K q 89 ls (.int 24 :: st) H cN sN) := by show Wn _ _ _ _ _ _ _ _ _ _ _ _ _ _ _ (q + 1) _ _ _ _ _ _ = _; rw [wn_s (by decide), f0_87]; rfl
theorem f0_89 : at1 code 89 = some (.lushr) := at1_of at_89 rfl (by decide)
theorem s0_89 : V0 l Z b K (q + 1) 89 ls st H cN sN = (popI st fun y r => popJ r fun x r => V0 l Z b K q 90 ls (.long (XT.ushrL x y) :: r) H cN sN) := by show Wn _ _ _ _ _ _ _ _ _ _ _ _ _ _ _ (q + 1) _ _ _ _ _ _ = _; rw [wn_s (by decide), f0_89]; rfl
theorem f0_90 : at1 code 90 = some (.l2i) := at1_of at_90 rfl (by decide)
theorem s0_90 : V0 l Z b K (q + 1) 90 ls st H cN sN = (popJ st fun x r => V0 l Z b K q 91 ls (.int (x.toInt32) :: r) H cN sN) := by show Wn _ _ _ _ _ _ _ _ _ _ _ _ _ _ _ (q + 1) _ _ _ _ _ _ = _; rw [wn_s (by decide), f0_90]; rfl
theorem f0_91 : at1 code 91 = some (.i2b) := at1_of at_91 rfl (by decide)
theorem s0_91 : V0 l Z b K (q + 1) 91 ls st H cN sN = (popI st fun x r => V0 l Z b K q 92 ls (.int (nar .byte x) :: r) H cN sN) := by show Wn _ _ _ _ _ _ _ _ _ _ _ _ _ _ _ (q + 1) _ _ _ _ _ _ = _; rw [wn_s (by decide), f0_91]; rfl
theorem f0_92 : at1 code 92 = some (.bastore) := at1_of at_92 rfl (by decide)
theorem s0_92 : V0 l Z b K (q + 1) 92 ls st H cN sN = (popI st fun x r => popI r fun j r => popR r fun a r => arr H b.size a fun i ty vs => if ty = .byte then idx vs j fun _ => setN vs j.toNatClampNeg (.int (nar .byte x)) fun vs' => setH H i (.inl (.byte, vs')) fun H' => V0 l Z b K q 93 ls r H' cN sN else False) := by show Wn _ _ _ _ _ _ _ _ _ _ _ _ _ _ _ (q + 1) _ _ _ _ _ _ = _; rw [wn_s (by decide), f0_92]; rfl
theorem f0_93 : at1 code 93 = some (.aload 7) := at1_of at_93 rfl (by decide)
theorem s0_93 : V0 l Z b K (q + 1) 93 ls st H cN sN = (ldA ls 7 fun v => V0 l Z b K q 95 ls (v :: st) H cN sN) := by show Wn _ _ _ _ _ _ _ _ _ _ _ _ _ _ _ (q + 1) _ _ _ _ _ _ = _; rw [wn_s (by decide), f0_93]; rfl
theorem f0_95 : at1 code 95 = some (.iconst 2) := at1_of at_95 rfl (by decide)
theorem s0_95 : V0 l Z b K (q + 1) 95 ls st H cN sN = (V0 l Z b K q 96 ls (.int 2 :: st) H cN sN) := by show Wn _ _ _ _ _ _ _ _ _ _ _ _ _ _ _ (q + 1) _ _ _ _ _ _ = _; rw [wn_s (by decide), f0_95]; rfl
theorem f0_96 : at1 code 96 = some (.lload_n 1) := at1_of at_96 rfl (by decide)
theorem s0_96 : V0 l Z b K (q + 1) 96 ls st H cN sN = (ldJ ls 1 fun v => V0 l Z b K q 97 ls (.long v :: st) H cN sN) := by show Wn _ _ _ _ _ _ _ _ _ _ _ _ _ _ _ (q + 1) _ _ _ _ _ _ = _; rw [wn_s (by decide), f0_96]; rfl
theorem f0_97 : at1 code 97 = some (.bipush 32) := at1_of at_97 rfl (by decide)
theorem s0_97 : V0 l Z b K (q + 1) 97 ls st H cN sN = (V0 l Z b K q 99 ls (.int 32 :: st) H cN sN) := by show Wn _ _ _ _ _ _ _ _ _ _ _ _ _ _ _ (q + 1) _ _ _ _ _ _ = _; rw [wn_s (by decide), f0_97]; rfl
theorem f0_99 : at1 code 99 = some (.lushr) := at1_of at_99 rfl (by decide)
theorem s0_99 : V0 l Z b K (q + 1) 99 ls st H cN sN = (popI st fun y r => popJ r fun x r => V0 l Z b K q 100 ls (.long (XT.ushrL x y) :: r) H cN sN) := by show Wn _ _ _ _ _ _ _ _ _ _ _ _ _ _ _ (q + 1) _ _ _ _ _ _ = _; rw [wn_s (by decide), f0_99]; rfl
theorem f0_100 : at1 code 100 = some (.l2i) := at1_of at_100 rfl (by decide)
theorem s0_100 : V0 l Z b K (q + 1) 100 ls st H cN sN = (popJ st fun x r => V0 l Z b K q 101 ls (.int (x.toInt32) :: r) H cN sN) := by show Wn _ _ _ _ _ _ _ _ _ _ _ _ _ _ _ (q + 1) _ _ _ _ _ _ = _; rw [wn_s (by decide), f0_100]; rfl
theorem f0_101 : at1 code 101 = some (.i2b) := at1_of at_101 rfl (by decide)
theorem s0_101 : V0 l Z b K (q + 1) 101 ls st H cN sN = (popI st fun x r => V0 l Z b K q 102 ls (.int (nar .byte x) :: r) H cN sN) := by show Wn _ _ _ _ _ _ _ _ _ _ _ _ _ _ _ (q + 1) _ _ _ _ _ _ = _; rw [wn_s (by decide), f0_101]; rfl
theorem f0_102 : at1 code 102 = some (.bastore) := at1_of at_102 rfl (by decide)
theorem s0_102 : V0 l Z b K (q + 1) 102 ls st H cN sN = (popI st fun x r => popI r fun j r => popR r fun a r => arr H b.size a fun i ty vs => if ty = .byte then idx vs j fun _ => setN vs j.toNatClampNeg (.int (nar .byte x)) fun vs' => setH H i (.inl (.byte, vs')) fun H' => V0 l Z b K q 103 ls r H' cN sN else False) := by show Wn _ _ _ _ _ _ _ _ _ _ _ _ _ _ _ (q + 1) _ _ _ _ _ _ = _; rw [wn_s (by decide), f0_102]; rfl
theorem f0_103 : at1 code 103 = some (.aload 7) := at1_of at_103 rfl (by decide)
theorem s0_103 : V0 l Z b K (q + 1) 103 ls st H cN sN = (ldA ls 7 fun v => V0 l Z b K q 105 ls (v :: st) H cN sN) := by show Wn _ _ _ _ _ _ _ _ _ _ _ _ _ _ _ (q + 1) _ _ _ _ _ _ = _; rw [wn_s (by decide), f0_103]; rfl
theorem f0_105 : at1 code 105 = some (.iconst 3) := at1_of at_105 rfl (by decide)
theorem s0_105 : V0 l Z b K (q + 1) 105 ls st H cN sN = (V0 l Z b K q 106 ls (.int 3 :: st) H cN sN) := by show Wn _ _ _ _ _ _ _ _ _ _ _ _ _ _ _ (q + 1) _ _ _ _ _ _ = _; rw [wn_s (by decide), f0_105]; rfl
theorem f0_106 : at1 code 106 = some (.lload_n 1) := at1_of at_106 rfl (by decide)
theorem s0_106 : V0 l Z b K (q + 1) 106 ls st H cN sN = (ldJ ls 1 fun v => V0 l Z b K q 107 ls (.long v :: st) H cN sN) := by show Wn _ _ _ _ _ _ _ _ _ _ _ _ _ _ _ (q + 1) _ _ _ _ _ _ = _; rw [wn_s (by decide), f0_106]; rfl
theorem f0_107 : at1 code 107 = some (.bipush 40) := at1_of at_107 rfl (by decide)
theorem s0_107 : V0 l Z b K (q + 1) 107 ls st H cN sN = (V0 l Z b K q 109 ls (.int 40 :: st) H cN sN) := by show Wn _ _ _ _ _ _ _ _ _ _ _ _ _ _ _ (q + 1) _ _ _ _ _ _ = _; rw [wn_s (by decide), f0_107]; rfl
theorem f0_109 : at1 code 109 = some (.lushr) := at1_of at_109 rfl (by decide)
theorem s0_109 : V0 l Z b K (q + 1) 109 ls st H cN sN = (popI st fun y r => popJ r fun x r => V0 l Z b K q 110 ls (.long (XT.ushrL x y) :: r) H cN sN) := by show Wn _ _ _ _ _ _ _ _ _ _ _ _ _ _ _ (q + 1) _ _ _ _ _ _ = _; rw [wn_s (by decide), f0_109]; rfl
theorem f0_110 : at1 code 110 = some (.l2i) := at1_of at_110 rfl (by decide)
theorem s0_110 : V0 l Z b K (q + 1) 110 ls st H cN sN = (popJ st fun x r => V0 l Z b K q 111 ls (.int (x.toInt32) :: r) H cN sN) := by show Wn _ _ _ _ _ _ _ _ _ _ _ _ _ _ _ (q + 1) _ _ _ _ _ _ = _; rw [wn_s (by decide), f0_110]; rfl
theorem f0_111 : at1 code 111 = some (.i2b) := at1_of at_111 rfl (by decide)
theorem s0_111 : V0 l Z b K (q + 1) 111 ls st H cN sN = (popI st fun x r => V0 l Z b K q 112 ls (.int (nar .byte x) :: r) H cN sN) := by show Wn _ _ _ _ _ _ _ _ _ _ _ _ _ _ _ (q + 1) _ _ _ _ _ _ = _; rw [wn_s (by decide), f0_111]; rfl
theorem f0_112 : at1 code 112 = some (.bastore) := at1_of at_112 rfl (by decide)
theorem s0_112 : V0 l Z b K (q + 1) 112 ls st H cN sN = (popI st fun x r => popI r fun j r => popR r fun a r => arr H b.size a fun i ty vs => if ty = .byte then idx vs j fun _ => setN vs j.toNatClampNeg (.int (nar .byte x)) fun vs' => setH H i (.inl (.byte, vs')) fun H' => V0 l Z b K q 113 ls r H' cN sN else False) := by show Wn _ _ _ _ _ _ _ _ _ _ _ _ _ _ _ (q + 1) _ _ _ _ _ _ = _; rw [wn_s (by decide), f0_112]; rfl
theorem f0_113 : at1 code 113 = some (.iload 6) := at1_of at_113 rfl (by decide)
theorem s0_113 : V0 l Z b K (q + 1) 113 ls st H cN sN = G0 l Z b K 113 ls st H cN sN := wn_p (by decide)
theorem e0_113 (q : Nat) (h : ldI ls 6 fun v => V0 l Z b K q 115 ls (.int v :: st) H cN sN) : G0 l Z b K 113 ls st H cN sN := G.enter (S := [113, 187, 221]) (CI := []) (CL := []) (FL := []) (AL := [.byte, .int]) (PL := []) (NL := []) q (by intro x hx; cases hx) (by intro x hx; cases hx) (by intro x hx; cases hx) (by intro x hx; simp only [List.mem_cons, List.not_mem_nil, or_false] at hx; rcases hx with rfl | rfl <;> first | exact List.mem_of_getElem? (i := 1) rfl | exact List.mem_of_getElem? (i := 0) rfl) (by intro x hx; cases hx) (by intro x hx; cases hx) f0_113 h
theorem f0_115 : at1 code 115 = some (.iload 5) := at1_of at_115 rfl (by decide)
theorem s0_115 : V0 l Z b K (q + 1) 115 ls st H cN sN = (ldI ls 5 fun v => V0 l Z b K q 117 ls (.int v :: st) H cN sN) := by show Wn _ _ _ _ _ _ _ _ _ _ _ _ _ _ _ (q + 1) _ _ _ _ _ _ = _; rw [wn_s (by decide), f0_115]; rfl
theorem f0_117 : at1 code 117 = some (.iadd) := at1_of at_117 rfl (by decide)
theorem s0_117 : V0 l Z b K (q + 1) 117 ls st H cN sN = (popI st fun y r => popI r fun x r => V0 l Z b K q 118 ls (.int (x + y) :: r) H cN sN) := by show Wn _ _ _ _ _ _ _ _ _ _ _ _ _ _ _ (q + 1) _ _ _ _ _ _ = _; rw [wn_s (by decide), f0_117]; rfl
theorem f0_118 : at1 code 118 = some (.istore 8) := at1_of at_118 rfl (by decide)
theorem s0_118 : V0 l Z b K (q + 1) 118 ls st H cN sN = (popI st fun v r => sto1 ls 8 (.int v) fun l' => V0 l Z b K q 120 l' r H cN sN) := by show Wn _ _ _ _ _ _ _ _ _ _ _ _ _ _ _ (q + 1) _ _ _ _ _ _ = _; rw [wn_s (by decide), f0_118]; rfl
theorem f0_120 : at1 code 120 = some (.iload_n 3) := at1_of at_120 rfl (by decide)
theorem s0_120 : V0 l Z b K (q + 1) 120 ls st H cN sN = (ldI ls 3 fun v => V0 l Z b K q 121 ls (.int v :: st) H cN sN) := by show Wn _ _ _ _ _ _ _ _ _ _ _ _ _ _ _ (q + 1) _ _ _ _ _ _ = _; rw [wn_s (by decide), f0_120]; rfl
theorem f0_121 : at1 code 121 = some (.ifCond .le 15) := at1_of at_121 rfl (by decide)
theorem s0_121 : V0 l Z b K (q + 1) 121 ls st H cN sN = (popI st fun x r => if 0 < x then V0 l Z b K q 124 ls r H cN sN else V0 l Z b K q 136 ls r H cN sN) := by show Wn _ _ _ _ _ _ _ _ _ _ _ _ _ _ _ (q + 1) _ _ _ _ _ _ = _; rw [wn_s (by decide), f0_121]; rfl
theorem f0_124 : at1 code 124 = some (.iload 8) := at1_of at_124 rfl (by decide)
theorem s0_124 : V0 l Z b K (q + 1) 124 ls st H cN sN = (ldI ls 8 fun v => V0 l Z b K q 126 ls (.int v :: st) H cN sN) := by show Wn _ _ _ _ _ _ _ _ _ _ _ _ _ _ _ (q + 1) _ _ _ _ _ _ = _; rw [wn_s (by decide), f0_124]; rfl
theorem f0_126 : at1 code 126 = some (.aload 4) := at1_of at_126 rfl (by decide)
theorem s0_126 : V0 l Z b K (q + 1) 126 ls st H cN sN = (ldA ls 4 fun v => V0 l Z b K q 128 ls (v :: st) H cN sN) := by show Wn _ _ _ _ _ _ _ _ _ _ _ _ _ _ _ (q + 1) _ _ _ _ _ _ = _; rw [wn_s (by decide), f0_126]; rfl
theorem f0_128 : at1 code 128 = some (.iconst 0) := at1_of at_128 rfl (by decide)
theorem s0_128 : V0 l Z b K (q + 1) 128 ls st H cN sN = (V0 l Z b K q 129 ls (.int 0 :: st) H cN sN) := by show Wn _ _ _ _ _ _ _ _ _ _ _ _ _ _ _ (q + 1) _ _ _ _ _ _ = _; rw [wn_s (by decide), f0_128]; rfl
theorem f0_129 : at1 code 129 = some (.iaload) := at1_of at_129 rfl (by decide)
theorem s0_129 : V0 l Z b K (q + 1) 129 ls st H cN sN = (popI st fun j r => popR r fun a r => arr H b.size a fun i ty vs => if ty = .int then idx vs j fun v => V0 l Z b K q 130 ls (v :: r) H cN sN else False) := by show Wn _ _ _ _ _ _ _ _ _ _ _ _ _ _ _ (q + 1) _ _ _ _ _ _ = _; rw [wn_s (by decide), f0_129]; rfl
theorem f0_130 : at1 code 130 = some (.invokestatic 7) := at1_of at_130 rfl (by decide)
theorem s0_130 : V0 l Z b K (q + 1) 130 ls st H cN sN = (G0 l Z b K 130 ls st H cN sN) := by show Wn _ _ _ _ _ _ _ _ _ _ _ _ _ _ _ (q + 1) _ _ _ _ _ _ = _; rw [wn_s (by decide), f0_130]; rfl
theorem f0_133 : at1 code 133 = some (.iadd) := at1_of at_133 rfl (by decide)
theorem s0_133 : V0 l Z b K (q + 1) 133 ls st H cN sN = (popI st fun y r => popI r fun x r => V0 l Z b K q 134 ls (.int (x + y) :: r) H cN sN) := by show Wn _ _ _ _ _ _ _ _ _ _ _ _ _ _ _ (q + 1) _ _ _ _ _ _ = _; rw [wn_s (by decide), f0_133]; rfl
theorem f0_134 : at1 code 134 = some (.istore 8) := at1_of at_134 rfl (by decide)
theorem s0_134 : V0 l Z b K (q + 1) 134 ls st H cN sN = (popI st fun v r => sto1 ls 8 (.int v) fun l' => V0 l Z b K q 136 l' r H cN sN) := by show Wn _ _ _ _ _ _ _ _ _ _ _ _ _ _ _ (q + 1) _ _ _ _ _ _ = _; rw [wn_s (by decide), f0_134]; rfl
theorem f0_136 : at1 code 136 = some (.iload_n 3) := at1_of at_136 rfl (by decide)
theorem s0_136 : V0 l Z b K (q + 1) 136 ls st H cN sN = (ldI ls 3 fun v => V0 l Z b K q 137 ls (.int v :: st) H cN sN) := by show Wn _ _ _ _ _ _ _ _ _ _ _ _ _ _ _ (q + 1) _ _ _ _ _ _ = _; rw [wn_s (by decide), f0_136]; rfl
theorem f0_137 : at1 code 137 = some (.iconst 1) := at1_of at_137 rfl (by decide)
theorem s0_137 : V0 l Z b K (q + 1) 137 ls st H cN sN = (V0 l Z b K q 138 ls (.int 1 :: st) H cN sN) := by show Wn _ _ _ _ _ _ _ _ _ _ _ _ _ _ _ (q + 1) _ _ _ _ _ _ = _; rw [wn_s (by decide), f0_137]; rfl
theorem f0_138 : at1 code 138 = some (.if_icmp .le 15) := at1_of at_138 rfl (by decide)
theorem s0_138 : V0 l Z b K (q + 1) 138 ls st H cN sN = (popI st fun y r => popI r fun x r => if y < x then V0 l Z b K q 141 ls r H cN sN else V0 l Z b K q 153 ls r H cN sN) := by show Wn _ _ _ _ _ _ _ _ _ _ _ _ _ _ _ (q + 1) _ _ _ _ _ _ = _; rw [wn_s (by decide), f0_138]; rfl
theorem f0_141 : at1 code 141 = some (.iload 8) := at1_of at_141 rfl (by decide)
theorem s0_141 : V0 l Z b K (q + 1) 141 ls st H cN sN = (ldI ls 8 fun v => V0 l Z b K q 143 ls (.int v :: st) H cN sN) := by show Wn _ _ _ _ _ _ _ _ _ _ _ _ _ _ _ (q + 1) _ _ _ _ _ _ = _; rw [wn_s (by decide), f0_141]; rfl
theorem f0_143 : at1 code 143 = some (.aload 4) := at1_of at_143 rfl (by decide)
theorem s0_143 : V0 l Z b K (q + 1) 143 ls st H cN sN = (ldA ls 4 fun v => V0 l Z b K q 145 ls (v :: st) H cN sN) := by show Wn _ _ _ _ _ _ _ _ _ _ _ _ _ _ _ (q + 1) _ _ _ _ _ _ = _; rw [wn_s (by decide), f0_143]; rfl
theorem f0_145 : at1 code 145 = some (.iconst 1) := at1_of at_145 rfl (by decide)
theorem s0_145 : V0 l Z b K (q + 1) 145 ls st H cN sN = (V0 l Z b K q 146 ls (.int 1 :: st) H cN sN) := by show Wn _ _ _ _ _ _ _ _ _ _ _ _ _ _ _ (q + 1) _ _ _ _ _ _ = _; rw [wn_s (by decide), f0_145]; rfl
theorem f0_146 : at1 code 146 = some (.iaload) := at1_of at_146 rfl (by decide)
theorem s0_146 : V0 l Z b K (q + 1) 146 ls st H cN sN = (popI st fun j r => popR r fun a r => arr H b.size a fun i ty vs => if ty = .int then idx vs j fun v => V0 l Z b K q 147 ls (v :: r) H cN sN else False) := by show Wn _ _ _ _ _ _ _ _ _ _ _ _ _ _ _ (q + 1) _ _ _ _ _ _ = _; rw [wn_s (by decide), f0_146]; rfl
theorem f0_147 : at1 code 147 = some (.invokestatic 7) := at1_of at_147 rfl (by decide)
theorem s0_147 : V0 l Z b K (q + 1) 147 ls st H cN sN = (G0 l Z b K 147 ls st H cN sN) := by show Wn _ _ _ _ _ _ _ _ _ _ _ _ _ _ _ (q + 1) _ _ _ _ _ _ = _; rw [wn_s (by decide), f0_147]; rfl
theorem f0_150 : at1 code 150 = some (.iadd) := at1_of at_150 rfl (by decide)
theorem s0_150 : V0 l Z b K (q + 1) 150 ls st H cN sN = (popI st fun y r => popI r fun x r => V0 l Z b K q 151 ls (.int (x + y) :: r) H cN sN) := by show Wn _ _ _ _ _ _ _ _ _ _ _ _ _ _ _ (q + 1) _ _ _ _ _ _ = _; rw [wn_s (by decide), f0_150]; rfl
theorem f0_151 : at1 code 151 = some (.istore 8) := at1_of at_151 rfl (by decide)
theorem s0_151 : V0 l Z b K (q + 1) 151 ls st H cN sN = (popI st fun v r => sto1 ls 8 (.int v) fun l' => V0 l Z b K q 153 l' r H cN sN) := by show Wn _ _ _ _ _ _ _ _ _ _ _ _ _ _ _ (q + 1) _ _ _ _ _ _ = _; rw [wn_s (by decide), f0_151]; rfl
theorem f0_153 : at1 code 153 = some (.iload_n 3) := at1_of at_153 rfl (by decide)
theorem s0_153 : V0 l Z b K (q + 1) 153 ls st H cN sN = (ldI ls 3 fun v => V0 l Z b K q 154 ls (.int v :: st) H cN sN) := by show Wn _ _ _ _ _ _ _ _ _ _ _ _ _ _ _ (q + 1) _ _ _ _ _ _ = _; rw [wn_s (by decide), f0_153]; rfl
theorem f0_154 : at1 code 154 = some (.iconst 2) := at1_of at_154 rfl (by decide)
theorem s0_154 : V0 l Z b K (q + 1) 154 ls st H cN sN = (V0 l Z b K q 155 ls (.int 2 :: st) H cN sN) := by show Wn _ _ _ _ _ _ _ _ _ _ _ _ _ _ _ (q + 1) _ _ _ _ _ _ = _; rw [wn_s (by decide), f0_154]; rfl
theorem f0_155 : at1 code 155 = some (.if_icmp .le 15) := at1_of at_155 rfl (by decide)
theorem s0_155 : V0 l Z b K (q + 1) 155 ls st H cN sN = (popI st fun y r => popI r fun x r => if y < x then V0 l Z b K q 158 ls r H cN sN else V0 l Z b K q 170 ls r H cN sN) := by show Wn _ _ _ _ _ _ _ _ _ _ _ _ _ _ _ (q + 1) _ _ _ _ _ _ = _; rw [wn_s (by decide), f0_155]; rfl
theorem f0_158 : at1 code 158 = some (.iload 8) := at1_of at_158 rfl (by decide)
theorem s0_158 : V0 l Z b K (q + 1) 158 ls st H cN sN = (ldI ls 8 fun v => V0 l Z b K q 160 ls (.int v :: st) H cN sN) := by show Wn _ _ _ _ _ _ _ _ _ _ _ _ _ _ _ (q + 1) _ _ _ _ _ _ = _; rw [wn_s (by decide), f0_158]; rfl
theorem f0_160 : at1 code 160 = some (.aload 4) := at1_of at_160 rfl (by decide)
theorem s0_160 : V0 l Z b K (q + 1) 160 ls st H cN sN = (ldA ls 4 fun v => V0 l Z b K q 162 ls (v :: st) H cN sN) := by show Wn _ _ _ _ _ _ _ _ _ _ _ _ _ _ _ (q + 1) _ _ _ _ _ _ = _; rw [wn_s (by decide), f0_160]; rfl
theorem f0_162 : at1 code 162 = some (.iconst 2) := at1_of at_162 rfl (by decide)
theorem s0_162 : V0 l Z b K (q + 1) 162 ls st H cN sN = (V0 l Z b K q 163 ls (.int 2 :: st) H cN sN) := by show Wn _ _ _ _ _ _ _ _ _ _ _ _ _ _ _ (q + 1) _ _ _ _ _ _ = _; rw [wn_s (by decide), f0_162]; rfl
theorem f0_163 : at1 code 163 = some (.iaload) := at1_of at_163 rfl (by decide)
theorem s0_163 : V0 l Z b K (q + 1) 163 ls st H cN sN = (popI st fun j r => popR r fun a r => arr H b.size a fun i ty vs => if ty = .int then idx vs j fun v => V0 l Z b K q 164 ls (v :: r) H cN sN else False) := by show Wn _ _ _ _ _ _ _ _ _ _ _ _ _ _ _ (q + 1) _ _ _ _ _ _ = _; rw [wn_s (by decide), f0_163]; rfl
theorem f0_164 : at1 code 164 = some (.invokestatic 7) := at1_of at_164 rfl (by decide)
theorem s0_164 : V0 l Z b K (q + 1) 164 ls st H cN sN = (G0 l Z b K 164 ls st H cN sN) := by show Wn _ _ _ _ _ _ _ _ _ _ _ _ _ _ _ (q + 1) _ _ _ _ _ _ = _; rw [wn_s (by decide), f0_164]; rfl
theorem f0_167 : at1 code 167 = some (.iadd) := at1_of at_167 rfl (by decide)
theorem s0_167 : V0 l Z b K (q + 1) 167 ls st H cN sN = (popI st fun y r => popI r fun x r => V0 l Z b K q 168 ls (.int (x + y) :: r) H cN sN) := by show Wn _ _ _ _ _ _ _ _ _ _ _ _ _ _ _ (q + 1) _ _ _ _ _ _ = _; rw [wn_s (by decide), f0_167]; rfl
theorem f0_168 : at1 code 168 = some (.istore 8) := at1_of at_168 rfl (by decide)
theorem s0_168 : V0 l Z b K (q + 1) 168 ls st H cN sN = (popI st fun v r => sto1 ls 8 (.int v) fun l' => V0 l Z b K q 170 l' r H cN sN) := by show Wn _ _ _ _ _ _ _ _ _ _ _ _ _ _ _ (q + 1) _ _ _ _ _ _ = _; rw [wn_s (by decide), f0_168]; rfl
theorem f0_170 : at1 code 170 = some (.iload_n 3) := at1_of at_170 rfl (by decide)
theorem s0_170 : V0 l Z b K (q + 1) 170 ls st H cN sN = (ldI ls 3 fun v => V0 l Z b K q 171 ls (.int v :: st) H cN sN) := by show Wn _ _ _ _ _ _ _ _ _ _ _ _ _ _ _ (q + 1) _ _ _ _ _ _ = _; rw [wn_s (by decide), f0_170]; rfl
theorem f0_171 : at1 code 171 = some (.iconst 3) := at1_of at_171 rfl (by decide)
theorem s0_171 : V0 l Z b K (q + 1) 171 ls st H cN sN = (V0 l Z b K q 172 ls (.int 3 :: st) H cN sN) := by show Wn _ _ _ _ _ _ _ _ _ _ _ _ _ _ _ (q + 1) _ _ _ _ _ _ = _; rw [wn_s (by decide), f0_171]; rfl
theorem f0_172 : at1 code 172 = some (.if_icmp .le 15) := at1_of at_172 rfl (by decide)
theorem s0_172 : V0 l Z b K (q + 1) 172 ls st H cN sN = (popI st fun y r => popI r fun x r => if y < x then V0 l Z b K q 175 ls r H cN sN else V0 l Z b K q 187 ls r H cN sN) := by show Wn _ _ _ _ _ _ _ _ _ _ _ _ _ _ _ (q + 1) _ _ _ _ _ _ = _; rw [wn_s (by decide), f0_172]; rfl
theorem f0_175 : at1 code 175 = some (.iload 8) := at1_of at_175 rfl (by decide)
theorem s0_175 : V0 l Z b K (q + 1) 175 ls st H cN sN = (ldI ls 8 fun v => V0 l Z b K q 177 ls (.int v :: st) H cN sN) := by show Wn _ _ _ _ _ _ _ _ _ _ _ _ _ _ _ (q + 1) _ _ _ _ _ _ = _; rw [wn_s (by decide), f0_175]; rfl
theorem f0_177 : at1 code 177 = some (.aload 4) := at1_of at_177 rfl (by decide)
theorem s0_177 : V0 l Z b K (q + 1) 177 ls st H cN sN = (ldA ls 4 fun v => V0 l Z b K q 179 ls (v :: st) H cN sN) := by show Wn _ _ _ _ _ _ _ _ _ _ _ _ _ _ _ (q + 1) _ _ _ _ _ _ = _; rw [wn_s (by decide), f0_177]; rfl
theorem f0_179 : at1 code 179 = some (.iconst 3) := at1_of at_179 rfl (by decide)
theorem s0_179 : V0 l Z b K (q + 1) 179 ls st H cN sN = (V0 l Z b K q 180 ls (.int 3 :: st) H cN sN) := by show Wn _ _ _ _ _ _ _ _ _ _ _ _ _ _ _ (q + 1) _ _ _ _ _ _ = _; rw [wn_s (by decide), f0_179]; rfl
theorem f0_180 : at1 code 180 = some (.iaload) := at1_of at_180 rfl (by decide)
theorem s0_180 : V0 l Z b K (q + 1) 180 ls st H cN sN = (popI st fun j r => popR r fun a r => arr H b.size a fun i ty vs => if ty = .int then idx vs j fun v => V0 l Z b K q 181 ls (v :: r) H cN sN else False) := by show Wn _ _ _ _ _ _ _ _ _ _ _ _ _ _ _ (q + 1) _ _ _ _ _ _ = _; rw [wn_s (by decide), f0_180]; rfl
theorem f0_181 : at1 code 181 = some (.invokestatic 7) := at1_of at_181 rfl (by decide)
theorem s0_181 : V0 l Z b K (q + 1) 181 ls st H cN sN = (G0 l Z b K 181 ls st H cN sN) := by show Wn _ _ _ _ _ _ _ _ _ _ _ _ _ _ _ (q + 1) _ _ _ _ _ _ = _; rw [wn_s (by decide), f0_181]; rfl
theorem f0_184 : at1 code 184 = some (.iadd) := at1_of at_184 rfl (by decide)
theorem s0_184 : V0 l Z b K (q + 1) 184 ls st H cN sN = (popI st fun y r => popI r fun x r => V0 l Z b K q 185 ls (.int (x + y) :: r) H cN sN) := by show Wn _ _ _ _ _ _ _ _ _ _ _ _ _ _ _ (q + 1) _ _ _ _ _ _ = _; rw [wn_s (by decide), f0_184]; rfl
theorem f0_185 : at1 code 185 = some (.istore 8) := at1_of at_185 rfl (by decide)
theorem s0_185 : V0 l Z b K (q + 1) 185 ls st H cN sN = (popI st fun v r => sto1 ls 8 (.int v) fun l' => V0 l Z b K q 187 l' r H cN sN) := by show Wn _ _ _ _ _ _ _ _ _ _ _ _ _ _ _ (q + 1) _ _ _ _ _ _ = _; rw [wn_s (by decide), f0_185]; rfl
theorem f0_187 : at1 code 187 = some (.iload 8) := at1_of at_187 rfl (by decide)
theorem s0_187 : V0 l Z b K (q + 1) 187 ls st H cN sN = G0 l Z b K 187 ls st H cN sN := wn_p (by decide)
theorem e0_187 (q : Nat) (h : ldI ls 8 fun v => V0 l Z b K q 189 ls (.int v :: st) H cN sN) : G0 l Z b K 187 ls st H cN sN := G.enter (S := [113, 187, 221]) (CI := []) (CL := []) (FL := []) (AL := [.byte, .int]) (PL := []) (NL := []) q (by intro x hx; cases hx) (by intro x hx; cases hx) (by intro x hx; cases hx) (by intro x hx; simp only [List.mem_cons, List.not_mem_nil, or_false] at hx; rcases hx with rfl | rfl <;> first | exact List.mem_of_getElem? (i := 1) rfl | exact List.mem_of_getElem? (i := 0) rfl) (by intro x hx; cases hx) (by intro x hx; cases hx) f0_187 h
theorem f0_189 : at1 code 189 = some (.newarray .byte) := at1_of at_189 rfl (by decide)
theorem s0_189 : V0 l Z b K (q + 1) 189 ls st H cN sN = (popI st fun n r => if ¬ n < 0 ∧ .byte ∈ ([.byte, .int] : List FieldType) ∧ n.toNatClampNeg ≤ 65536 ∧ cN + 1 ≤ room_1.cells ∧ sN + n.toNatClampNeg ≤ room_1.slots then onLen H fun i => repN n.toNatClampNeg (.int 0) fun vs => snoc H (.inl (.byte, vs)) fun H' => V0 l Z b K q 191 ls (.ref (ad b.size i) :: r) H' (cN + 1) (sN + n.toNatClampNeg) else False) := by show Wn _ _ _ _ _ _ _ _ _ _ _ _ _ _ _ (q + 1) _ _ _ _ _ _ = _; rw [wn_s (by decide), f0_189]; rfl
theorem f0_191 : at1 code 191 = some (.astore 9) := at1_of at_191 rfl (by decide)
theorem s0_191 : V0 l Z b K (q + 1) 191 ls st H cN sN = (popA st fun v r => sto1 ls 9 v fun l' => V0 l Z b K q 193 l' r H cN sN) := by show Wn _ _ _ _ _ _ _ _ _ _ _ _ _ _ _ (q + 1) _ _ _ _ _ _ = _; rw [wn_s (by decide), f0_191]; rfl
theorem f0_193 : at1 code 193 = some (.iload 6) := at1_of at_193 rfl (by decide)
theorem s0_193 : V0 l Z b K (q + 1) 193 ls st H cN sN = (ldI ls 6 fun v => V0 l Z b K q 195 ls (.int v :: st) H cN sN) := by show Wn _ _ _ _ _ _ _ _ _ _ _ _ _ _ _ (q + 1) _ _ _ _ _ _ = _; rw [wn_s (by decide), f0_193]; rfl
theorem f0_195 : at1 code 195 = some (.ifCond .le 10) := at1_of at_195 rfl (by decide)
theorem s0_195 : V0 l Z b K (q + 1) 195 ls st H cN sN = (popI st fun x r => if 0 < x then V0 l Z b K q 198 ls r H cN sN else V0 l Z b K q 205 ls r H cN sN) := by show Wn _ _ _ _ _ _ _ _ _ _ _ _ _ _ _ (q + 1) _ _ _ _ _ _ = _; rw [wn_s (by decide), f0_195]; rfl
theorem f0_198 : at1 code 198 = some (.aload 9) := at1_of at_198 rfl (by decide)
theorem s0_198 : V0 l Z b K (q + 1) 198 ls st H cN sN = (ldA ls 9 fun v => V0 l Z b K q 200 ls (v :: st) H cN sN) := by show Wn _ _ _ _ _ _ _ _ _ _ _ _ _ _ _ (q + 1) _ _ _ _ _ _ = _; rw [wn_s (by decide), f0_198]; rfl
theorem f0_200 : at1 code 200 = some (.iconst 0) := at1_of at_200 rfl (by decide)
theorem s0_200 : V0 l Z b K (q + 1) 200 ls st H cN sN = (V0 l Z b K q 201 ls (.int 0 :: st) H cN sN) := by show Wn _ _ _ _ _ _ _ _ _ _ _ _ _ _ _ (q + 1) _ _ _ _ _ _ = _; rw [wn_s (by decide), f0_200]; rfl
theorem f0_201 : at1 code 201 = some (.lload_n 1) := at1_of at_201 rfl (by decide)
theorem s0_201 : V0 l Z b K (q + 1) 201 ls st H cN sN = (ldJ ls 1 fun v => V0 l Z b K q 202 ls (.long v :: st) H cN sN) := by show Wn _ _ _ _ _ _ _ _ _ _ _ _ _ _ _ (q + 1) _ _ _ _ _ _ = _; rw [wn_s (by decide), f0_201]; rfl
theorem f0_202 : at1 code 202 = some (.l2i) := at1_of at_202 rfl (by decide)
theorem s0_202 : V0 l Z b K (q + 1) 202 ls st H cN sN = (popJ st fun x r => V0 l Z b K q 203 ls (.int (x.toInt32) :: r) H cN sN) := by show Wn _ _ _ _ _ _ _ _ _ _ _ _ _ _ _ (q + 1) _ _ _ _ _ _ = _; rw [wn_s (by decide), f0_202]; rfl
theorem f0_203 : at1 code 203 = some (.i2b) := at1_of at_203 rfl (by decide)
theorem s0_203 : V0 l Z b K (q + 1) 203 ls st H cN sN = (popI st fun x r => V0 l Z b K q 204 ls (.int (nar .byte x) :: r) H cN sN) := by show Wn _ _ _ _ _ _ _ _ _ _ _ _ _ _ _ (q + 1) _ _ _ _ _ _ = _; rw [wn_s (by decide), f0_203]; rfl
theorem f0_204 : at1 code 204 = some (.bastore) := at1_of at_204 rfl (by decide)
theorem s0_204 : V0 l Z b K (q + 1) 204 ls st H cN sN = (popI st fun x r => popI r fun j r => popR r fun a r => arr H b.size a fun i ty vs => if ty = .byte then idx vs j fun _ => setN vs j.toNatClampNeg (.int (nar .byte x)) fun vs' => setH H i (.inl (.byte, vs')) fun H' => V0 l Z b K q 205 ls r H' cN sN else False) := by show Wn _ _ _ _ _ _ _ _ _ _ _ _ _ _ _ (q + 1) _ _ _ _ _ _ = _; rw [wn_s (by decide), f0_204]; rfl
theorem f0_205 : at1 code 205 = some (.iload 6) := at1_of at_205 rfl (by decide)
theorem s0_205 : V0 l Z b K (q + 1) 205 ls st H cN sN = (ldI ls 6 fun v => V0 l Z b K q 207 ls (.int v :: st) H cN sN) := by show Wn _ _ _ _ _ _ _ _ _ _ _ _ _ _ _ (q + 1) _ _ _ _ _ _ = _; rw [wn_s (by decide), f0_205]; rfl
theorem f0_207 : at1 code 207 = some (.iconst 1) := at1_of at_207 rfl (by decide)
theorem s0_207 : V0 l Z b K (q + 1) 207 ls st H cN sN = (V0 l Z b K q 208 ls (.int 1 :: st) H cN sN) := by show Wn _ _ _ _ _ _ _ _ _ _ _ _ _ _ _ (q + 1) _ _ _ _ _ _ = _; rw [wn_s (by decide), f0_207]; rfl
theorem f0_208 : at1 code 208 = some (.if_icmp .le 13) := at1_of at_208 rfl (by decide)
theorem s0_208 : V0 l Z b K (q + 1) 208 ls st H cN sN = (popI st fun y r => popI r fun x r => if y < x then V0 l Z b K q 211 ls r H cN sN else V0 l Z b K q 221 ls r H cN sN) := by show Wn _ _ _ _ _ _ _ _ _ _ _ _ _ _ _ (q + 1) _ _ _ _ _ _ = _; rw [wn_s (by decide), f0_208]; rfl
theorem f0_211 : at1 code 211 = some (.aload 9) := at1_of at_211 rfl (by decide)
theorem s0_211 : V0 l Z b K (q + 1) 211 ls st H cN sN = (ldA ls 9 fun v => V0 l Z b K q 213 ls (v :: st) H cN sN) := by show Wn _ _ _ _ _ _ _ _ _ _ _ _ _ _ _ (q + 1) _ _ _ _ _ _ = _; rw [wn_s (by decide), f0_211]; rfl
theorem f0_213 : at1 code 213 = some (.iconst 1) := at1_of at_213 rfl (by decide)
theorem s0_213 : V0 l Z b K (q + 1) 213 ls st H cN sN = (V0 l Z b K q 214 ls (.int 1 :: st) H cN sN) := by show Wn _ _ _ _ _ _ _ _ _ _ _ _ _ _ _ (q + 1) _ _ _ _ _ _ = _; rw [wn_s (by decide), f0_213]; rfl
theorem f0_214 : at1 code 214 = some (.lload_n 1) := at1_of at_214 rfl (by decide)
theorem s0_214 : V0 l Z b K (q + 1) 214 ls st H cN sN = (ldJ ls 1 fun v => V0 l Z b K q 215 ls (.long v :: st) H cN sN) := by show Wn _ _ _ _ _ _ _ _ _ _ _ _ _ _ _ (q + 1) _ _ _ _ _ _ = _; rw [wn_s (by decide), f0_214]; rfl
theorem f0_215 : at1 code 215 = some (.bipush 8) := at1_of at_215 rfl (by decide)
theorem s0_215 : V0 l Z b K (q + 1) 215 ls st H cN sN = (V0 l Z b K q 217 ls (.int 8 :: st) H cN sN) := by show Wn _ _ _ _ _ _ _ _ _ _ _ _ _ _ _ (q + 1) _ _ _ _ _ _ = _; rw [wn_s (by decide), f0_215]; rfl
theorem f0_217 : at1 code 217 = some (.lushr) := at1_of at_217 rfl (by decide)
theorem s0_217 : V0 l Z b K (q + 1) 217 ls st H cN sN = (popI st fun y r => popJ r fun x r => V0 l Z b K q 218 ls (.long (XT.ushrL x y) :: r) H cN sN) := by show Wn _ _ _ _ _ _ _ _ _ _ _ _ _ _ _ (q + 1) _ _ _ _ _ _ = _; rw [wn_s (by decide), f0_217]; rfl
theorem f0_218 : at1 code 218 = some (.l2i) := at1_of at_218 rfl (by decide)
theorem s0_218 : V0 l Z b K (q + 1) 218 ls st H cN sN = (popJ st fun x r => V0 l Z b K q 219 ls (.int (x.toInt32) :: r) H cN sN) := by show Wn _ _ _ _ _ _ _ _ _ _ _ _ _ _ _ (q + 1) _ _ _ _ _ _ = _; rw [wn_s (by decide), f0_218]; rfl
theorem f0_219 : at1 code 219 = some (.i2b) := at1_of at_219 rfl (by decide)
theorem s0_219 : V0 l Z b K (q + 1) 219 ls st H cN sN = (popI st fun x r => V0 l Z b K q 220 ls (.int (nar .byte x) :: r) H cN sN) := by show Wn _ _ _ _ _ _ _ _ _ _ _ _ _ _ _ (q + 1) _ _ _ _ _ _ = _; rw [wn_s (by decide), f0_219]; rfl
theorem f0_220 : at1 code 220 = some (.bastore) := at1_of at_220 rfl (by decide)
theorem s0_220 : V0 l Z b K (q + 1) 220 ls st H cN sN = (popI st fun x r => popI r fun j r => popR r fun a r => arr H b.size a fun i ty vs => if ty = .byte then idx vs j fun _ => setN vs j.toNatClampNeg (.int (nar .byte x)) fun vs' => setH H i (.inl (.byte, vs')) fun H' => V0 l Z b K q 221 ls r H' cN sN else False) := by show Wn _ _ _ _ _ _ _ _ _ _ _ _ _ _ _ (q + 1) _ _ _ _ _ _ = _; rw [wn_s (by decide), f0_220]; rfl
theorem f0_221 : at1 code 221 = some (.iload 6) := at1_of at_221 rfl (by decide)
theorem s0_221 : V0 l Z b K (q + 1) 221 ls st H cN sN = G0 l Z b K 221 ls st H cN sN := wn_p (by decide)
theorem e0_221 (q : Nat) (h : ldI ls 6 fun v => V0 l Z b K q 223 ls (.int v :: st) H cN sN) : G0 l Z b K 221 ls st H cN sN := G.enter (S := [113, 187, 221]) (CI := []) (CL := []) (FL := []) (AL := [.byte, .int]) (PL := []) (NL := []) q (by intro x hx; cases hx) (by intro x hx; cases hx) (by intro x hx; cases hx) (by intro x hx; simp only [List.mem_cons, List.not_mem_nil, or_false] at hx; rcases hx with rfl | rfl <;> first | exact List.mem_of_getElem? (i := 1) rfl | exact List.mem_of_getElem? (i := 0) rfl) (by intro x hx; cases hx) (by intro x hx; cases hx) f0_221 h
theorem f0_223 : at1 code 223 = some (.istore 10) := at1_of at_223 rfl (by decide)
theorem s0_223 : V0 l Z b K (q + 1) 223 ls st H cN sN = (popI st fun v r => sto1 ls 10 (.int v) fun l' => V0 l Z b K q 225 l' r H cN sN) := by show Wn _ _ _ _ _ _ _ _ _ _ _ _ _ _ _ (q + 1) _ _ _ _ _ _ = _; rw [wn_s (by decide), f0_223]; rfl
theorem f0_225 : at1 code 225 = some (.iload_n 3) := at1_of at_225 rfl (by decide)
theorem s0_225 : V0 l Z b K (q + 1) 225 ls st H cN sN = (ldI ls 3 fun v => V0 l Z b K q 226 ls (.int v :: st) H cN sN) := by show Wn _ _ _ _ _ _ _ _ _ _ _ _ _ _ _ (q + 1) _ _ _ _ _ _ = _; rw [wn_s (by decide), f0_225]; rfl
theorem f0_226 : at1 code 226 = some (.ifCond .le 20) := at1_of at_226 rfl (by decide)
theorem s0_226 : V0 l Z b K (q + 1) 226 ls st H cN sN = (popI st fun x r => if 0 < x then V0 l Z b K q 229 ls r H cN sN else V0 l Z b K q 246 ls r H cN sN) := by show Wn _ _ _ _ _ _ _ _ _ _ _ _ _ _ _ (q + 1) _ _ _ _ _ _ = _; rw [wn_s (by decide), f0_226]; rfl
theorem f0_229 : at1 code 229 = some (.aload 9) := at1_of at_229 rfl (by decide)
theorem s0_229 : V0 l Z b K (q + 1) 229 ls st H cN sN = (ldA ls 9 fun v => V0 l Z b K q 231 ls (v :: st) H cN sN) := by show Wn _ _ _ _ _ _ _ _ _ _ _ _ _ _ _ (q + 1) _ _ _ _ _ _ = _; rw [wn_s (by decide), f0_229]; rfl
theorem f0_231 : at1 code 231 = some (.iload 10) := at1_of at_231 rfl (by decide)
theorem s0_231 : V0 l Z b K (q + 1) 231 ls st H cN sN = (ldI ls 10 fun v => V0 l Z b K q 233 ls (.int v :: st) H cN sN) := by show Wn _ _ _ _ _ _ _ _ _ _ _ _ _ _ _ (q + 1) _ _ _ _ _ _ = _; rw [wn_s (by decide), f0_231]; rfl
theorem f0_233 : at1 code 233 = some (.aload 4) := at1_of at_233 rfl (by decide)
theorem s0_233 : V0 l Z b K (q + 1) 233 ls st H cN sN = (ldA ls 4 fun v => V0 l Z b K q 235 ls (v :: st) H cN sN) := by show Wn _ _ _ _ _ _ _ _ _ _ _ _ _ _ _ (q + 1) _ _ _ _ _ _ = _; rw [wn_s (by decide), f0_233]; rfl
theorem f0_235 : at1 code 235 = some (.iconst 0) := at1_of at_235 rfl (by decide)
theorem s0_235 : V0 l Z b K (q + 1) 235 ls st H cN sN = (V0 l Z b K q 236 ls (.int 0 :: st) H cN sN) := by show Wn _ _ _ _ _ _ _ _ _ _ _ _ _ _ _ (q + 1) _ _ _ _ _ _ = _; rw [wn_s (by decide), f0_235]; rfl
theorem f0_236 : at1 code 236 = some (.iaload) := at1_of at_236 rfl (by decide)
theorem s0_236 : V0 l Z b K (q + 1) 236 ls st H cN sN = (popI st fun j r => popR r fun a r => arr H b.size a fun i ty vs => if ty = .int then idx vs j fun v => V0 l Z b K q 237 ls (v :: r) H cN sN else False) := by show Wn _ _ _ _ _ _ _ _ _ _ _ _ _ _ _ (q + 1) _ _ _ _ _ _ = _; rw [wn_s (by decide), f0_236]; rfl
theorem f0_237 : at1 code 237 = some (.aload 7) := at1_of at_237 rfl (by decide)
theorem s0_237 : V0 l Z b K (q + 1) 237 ls st H cN sN = (ldA ls 7 fun v => V0 l Z b K q 239 ls (v :: st) H cN sN) := by show Wn _ _ _ _ _ _ _ _ _ _ _ _ _ _ _ (q + 1) _ _ _ _ _ _ = _; rw [wn_s (by decide), f0_237]; rfl
theorem f0_239 : at1 code 239 = some (.iconst 0) := at1_of at_239 rfl (by decide)
theorem s0_239 : V0 l Z b K (q + 1) 239 ls st H cN sN = (V0 l Z b K q 240 ls (.int 0 :: st) H cN sN) := by show Wn _ _ _ _ _ _ _ _ _ _ _ _ _ _ _ (q + 1) _ _ _ _ _ _ = _; rw [wn_s (by decide), f0_239]; rfl
theorem f0_240 : at1 code 240 = some (.baload) := at1_of at_240 rfl (by decide)
theorem s0_240 : V0 l Z b K (q + 1) 240 ls st H cN sN = (popI st fun j r => popR r fun a r => arr H b.size a fun i ty vs => if ty = .byte then idx vs j fun v => V0 l Z b K q 241 ls (v :: r) H cN sN else False) := by show Wn _ _ _ _ _ _ _ _ _ _ _ _ _ _ _ (q + 1) _ _ _ _ _ _ = _; rw [wn_s (by decide), f0_240]; rfl
theorem f0_241 : at1 code 241 = some (.invokestatic 13) := at1_of at_241 rfl (by decide)
theorem s0_241 : V0 l Z b K (q + 1) 241 ls st H cN sN = (G0 l Z b K 241 ls st H cN sN) := by show Wn _ _ _ _ _ _ _ _ _ _ _ _ _ _ _ (q + 1) _ _ _ _ _ _ = _; rw [wn_s (by decide), f0_241]; rfl
theorem f0_244 : at1 code 244 = some (.istore 10) := at1_of at_244 rfl (by decide)
theorem s0_244 : V0 l Z b K (q + 1) 244 ls st H cN sN = (popI st fun v r => sto1 ls 10 (.int v) fun l' => V0 l Z b K q 246 l' r H cN sN) := by show Wn _ _ _ _ _ _ _ _ _ _ _ _ _ _ _ (q + 1) _ _ _ _ _ _ = _; rw [wn_s (by decide), f0_244]; rfl
theorem f0_246 : at1 code 246 = some (.iload_n 3) := at1_of at_246 rfl (by decide)
theorem s0_246 : V0 l Z b K (q + 1) 246 ls st H cN sN = (ldI ls 3 fun v => V0 l Z b K q 247 ls (.int v :: st) H cN sN) := by show Wn _ _ _ _ _ _ _ _ _ _ _ _ _ _ _ (q + 1) _ _ _ _ _ _ = _; rw [wn_s (by decide), f0_246]; rfl
theorem f0_247 : at1 code 247 = some (.iconst 1) := at1_of at_247 rfl (by decide)
theorem s0_247 : V0 l Z b K (q + 1) 247 ls st H cN sN = (V0 l Z b K q 248 ls (.int 1 :: st) H cN sN) := by show Wn _ _ _ _ _ _ _ _ _ _ _ _ _ _ _ (q + 1) _ _ _ _ _ _ = _; rw [wn_s (by decide), f0_247]; rfl
theorem f0_248 : at1 code 248 = some (.if_icmp .le 20) := at1_of at_248 rfl (by decide)
theorem s0_248 : V0 l Z b K (q + 1) 248 ls st H cN sN = (popI st fun y r => popI r fun x r => if y < x then V0 l Z b K q 251 ls r H cN sN else V0 l Z b K q 268 ls r H cN sN) := by show Wn _ _ _ _ _ _ _ _ _ _ _ _ _ _ _ (q + 1) _ _ _ _ _ _ = _; rw [wn_s (by decide), f0_248]; rfl
theorem f0_251 : at1 code 251 = some (.aload 9) := at1_of at_251 rfl (by decide)
theorem s0_251 : V0 l Z b K (q + 1) 251 ls st H cN sN = (ldA ls 9 fun v => V0 l Z b K q 253 ls (v :: st) H cN sN) := by show Wn _ _ _ _ _ _ _ _ _ _ _ _ _ _ _ (q + 1) _ _ _ _ _ _ = _; rw [wn_s (by decide), f0_251]; rfl
theorem f0_253 : at1 code 253 = some (.iload 10) := at1_of at_253 rfl (by decide)
theorem s0_253 : V0 l Z b K (q + 1) 253 ls st H cN sN = (ldI ls 10 fun v => V0 l Z b K q 255 ls (.int v :: st) H cN sN) := by show Wn _ _ _ _ _ _ _ _ _ _ _ _ _ _ _ (q + 1) _ _ _ _ _ _ = _; rw [wn_s (by decide), f0_253]; rfl
theorem f0_255 : at1 code 255 = some (.aload 4) := at1_of at_255 rfl (by decide)
theorem s0_255 : V0 l Z b K (q + 1) 255 ls st H cN sN = (ldA ls 4 fun v => V0 l Z b K q 257 ls (v :: st) H cN sN) := by show Wn _ _ _ _ _ _ _ _ _ _ _ _ _ _ _ (q + 1) _ _ _ _ _ _ = _; rw [wn_s (by decide), f0_255]; rfl
theorem f0_257 : at1 code 257 = some (.iconst 1) := at1_of at_257 rfl (by decide)
theorem s0_257 : V0 l Z b K (q + 1) 257 ls st H cN sN = (V0 l Z b K q 258 ls (.int 1 :: st) H cN sN) := by show Wn _ _ _ _ _ _ _ _ _ _ _ _ _ _ _ (q + 1) _ _ _ _ _ _ = _; rw [wn_s (by decide), f0_257]; rfl
theorem f0_258 : at1 code 258 = some (.iaload) := at1_of at_258 rfl (by decide)
theorem s0_258 : V0 l Z b K (q + 1) 258 ls st H cN sN = (popI st fun j r => popR r fun a r => arr H b.size a fun i ty vs => if ty = .int then idx vs j fun v => V0 l Z b K q 259 ls (v :: r) H cN sN else False) := by show Wn _ _ _ _ _ _ _ _ _ _ _ _ _ _ _ (q + 1) _ _ _ _ _ _ = _; rw [wn_s (by decide), f0_258]; rfl
theorem f0_259 : at1 code 259 = some (.aload 7) := at1_of at_259 rfl (by decide)
theorem s0_259 : V0 l Z b K (q + 1) 259 ls st H cN sN = (ldA ls 7 fun v => V0 l Z b K q 261 ls (v :: st) H cN sN) := by show Wn _ _ _ _ _ _ _ _ _ _ _ _ _ _ _ (q + 1) _ _ _ _ _ _ = _; rw [wn_s (by decide), f0_259]; rfl
theorem f0_261 : at1 code 261 = some (.iconst 1) := at1_of at_261 rfl (by decide)
theorem s0_261 : V0 l Z b K (q + 1) 261 ls st H cN sN = (V0 l Z b K q 262 ls (.int 1 :: st) H cN sN) := by show Wn _ _ _ _ _ _ _ _ _ _ _ _ _ _ _ (q + 1) _ _ _ _ _ _ = _; rw [wn_s (by decide), f0_261]; rfl
theorem f0_262 : at1 code 262 = some (.baload) := at1_of at_262 rfl (by decide)
theorem s0_262 : V0 l Z b K (q + 1) 262 ls st H cN sN = (popI st fun j r => popR r fun a r => arr H b.size a fun i ty vs => if ty = .byte then idx vs j fun v => V0 l Z b K q 263 ls (v :: r) H cN sN else False) := by show Wn _ _ _ _ _ _ _ _ _ _ _ _ _ _ _ (q + 1) _ _ _ _ _ _ = _; rw [wn_s (by decide), f0_262]; rfl
theorem f0_263 : at1 code 263 = some (.invokestatic 13) := at1_of at_263 rfl (by decide)
theorem s0_263 : V0 l Z b K (q + 1) 263 ls st H cN sN = (G0 l Z b K 263 ls st H cN sN) := by show Wn _ _ _ _ _ _ _ _ _ _ _ _ _ _ _ (q + 1) _ _ _ _ _ _ = _; rw [wn_s (by decide), f0_263]; rfl
theorem f0_266 : at1 code 266 = some (.istore 10) := at1_of at_266 rfl (by decide)
theorem s0_266 : V0 l Z b K (q + 1) 266 ls st H cN sN = (popI st fun v r => sto1 ls 10 (.int v) fun l' => V0 l Z b K q 268 l' r H cN sN) := by show Wn _ _ _ _ _ _ _ _ _ _ _ _ _ _ _ (q + 1) _ _ _ _ _ _ = _; rw [wn_s (by decide), f0_266]; rfl
theorem f0_268 : at1 code 268 = some (.iload_n 3) := at1_of at_268 rfl (by decide)
theorem s0_268 : V0 l Z b K (q + 1) 268 ls st H cN sN = (ldI ls 3 fun v => V0 l Z b K q 269 ls (.int v :: st) H cN sN) := by show Wn _ _ _ _ _ _ _ _ _ _ _ _ _ _ _ (q + 1) _ _ _ _ _ _ = _; rw [wn_s (by decide), f0_268]; rfl
theorem f0_269 : at1 code 269 = some (.iconst 2) := at1_of at_269 rfl (by decide)
theorem s0_269 : V0 l Z b K (q + 1) 269 ls st H cN sN = (V0 l Z b K q 270 ls (.int 2 :: st) H cN sN) := by show Wn _ _ _ _ _ _ _ _ _ _ _ _ _ _ _ (q + 1) _ _ _ _ _ _ = _; rw [wn_s (by decide), f0_269]; rfl
theorem f0_270 : at1 code 270 = some (.if_icmp .le 20) := at1_of at_270 rfl (by decide)
theorem s0_270 : V0 l Z b K (q + 1) 270 ls st H cN sN = (popI st fun y r => popI r fun x r => if y < x then V0 l Z b K q 273 ls r H cN sN else V0 l Z b K q 290 ls r H cN sN) := by show Wn _ _ _ _ _ _ _ _ _ _ _ _ _ _ _ (q + 1) _ _ _ _ _ _ = _; rw [wn_s (by decide), f0_270]; rfl
theorem f0_273 : at1 code 273 = some (.aload 9) := at1_of at_273 rfl (by decide)
theorem s0_273 : V0 l Z b K (q + 1) 273 ls st H cN sN = (ldA ls 9 fun v => V0 l Z b K q 275 ls (v :: st) H cN sN) := by show Wn _ _ _ _ _ _ _ _ _ _ _ _ _ _ _ (q + 1) _ _ _ _ _ _ = _; rw [wn_s (by decide), f0_273]; rfl
theorem f0_275 : at1 code 275 = some (.iload 10) := at1_of at_275 rfl (by decide)
theorem s0_275 : V0 l Z b K (q + 1) 275 ls st H cN sN = (ldI ls 10 fun v => V0 l Z b K q 277 ls (.int v :: st) H cN sN) := by show Wn _ _ _ _ _ _ _ _ _ _ _ _ _ _ _ (q + 1) _ _ _ _ _ _ = _; rw [wn_s (by decide), f0_275]; rfl
theorem f0_277 : at1 code 277 = some (.aload 4) := at1_of at_277 rfl (by decide)
theorem s0_277 : V0 l Z b K (q + 1) 277 ls st H cN sN = (ldA ls 4 fun v => V0 l Z b K q 279 ls (v :: st) H cN sN) := by show Wn _ _ _ _ _ _ _ _ _ _ _ _ _ _ _ (q + 1) _ _ _ _ _ _ = _; rw [wn_s (by decide), f0_277]; rfl
theorem f0_279 : at1 code 279 = some (.iconst 2) := at1_of at_279 rfl (by decide)
theorem s0_279 : V0 l Z b K (q + 1) 279 ls st H cN sN = (V0 l Z b K q 280 ls (.int 2 :: st) H cN sN) := by show Wn _ _ _ _ _ _ _ _ _ _ _ _ _ _ _ (q + 1) _ _ _ _ _ _ = _; rw [wn_s (by decide), f0_279]; rfl
theorem f0_280 : at1 code 280 = some (.iaload) := at1_of at_280 rfl (by decide)
theorem s0_280 : V0 l Z b K (q + 1) 280 ls st H cN sN = (popI st fun j r => popR r fun a r => arr H b.size a fun i ty vs => if ty = .int then idx vs j fun v => V0 l Z b K q 281 ls (v :: r) H cN sN else False) := by show Wn _ _ _ _ _ _ _ _ _ _ _ _ _ _ _ (q + 1) _ _ _ _ _ _ = _; rw [wn_s (by decide), f0_280]; rfl
theorem f0_281 : at1 code 281 = some (.aload 7) := at1_of at_281 rfl (by decide)
theorem s0_281 : V0 l Z b K (q + 1) 281 ls st H cN sN = (ldA ls 7 fun v => V0 l Z b K q 283 ls (v :: st) H cN sN) := by show Wn _ _ _ _ _ _ _ _ _ _ _ _ _ _ _ (q + 1) _ _ _ _ _ _ = _; rw [wn_s (by decide), f0_281]; rfl
theorem f0_283 : at1 code 283 = some (.iconst 2) := at1_of at_283 rfl (by decide)
theorem s0_283 : V0 l Z b K (q + 1) 283 ls st H cN sN = (V0 l Z b K q 284 ls (.int 2 :: st) H cN sN) := by show Wn _ _ _ _ _ _ _ _ _ _ _ _ _ _ _ (q + 1) _ _ _ _ _ _ = _; rw [wn_s (by decide), f0_283]; rfl
theorem f0_284 : at1 code 284 = some (.baload) := at1_of at_284 rfl (by decide)
theorem s0_284 : V0 l Z b K (q + 1) 284 ls st H cN sN = (popI st fun j r => popR r fun a r => arr H b.size a fun i ty vs => if ty = .byte then idx vs j fun v => V0 l Z b K q 285 ls (v :: r) H cN sN else False) := by show Wn _ _ _ _ _ _ _ _ _ _ _ _ _ _ _ (q + 1) _ _ _ _ _ _ = _; rw [wn_s (by decide), f0_284]; rfl
theorem f0_285 : at1 code 285 = some (.invokestatic 13) := at1_of at_285 rfl (by decide)
theorem s0_285 : V0 l Z b K (q + 1) 285 ls st H cN sN = (G0 l Z b K 285 ls st H cN sN) := by show Wn _ _ _ _ _ _ _ _ _ _ _ _ _ _ _ (q + 1) _ _ _ _ _ _ = _; rw [wn_s (by decide), f0_285]; rfl
theorem f0_288 : at1 code 288 = some (.istore 10) := at1_of at_288 rfl (by decide)
theorem s0_288 : V0 l Z b K (q + 1) 288 ls st H cN sN = (popI st fun v r => sto1 ls 10 (.int v) fun l' => V0 l Z b K q 290 l' r H cN sN) := by show Wn _ _ _ _ _ _ _ _ _ _ _ _ _ _ _ (q + 1) _ _ _ _ _ _ = _; rw [wn_s (by decide), f0_288]; rfl
theorem f0_290 : at1 code 290 = some (.iload_n 3) := at1_of at_290 rfl (by decide)
theorem s0_290 : V0 l Z b K (q + 1) 290 ls st H cN sN = (ldI ls 3 fun v => V0 l Z b K q 291 ls (.int v :: st) H cN sN) := by show Wn _ _ _ _ _ _ _ _ _ _ _ _ _ _ _ (q + 1) _ _ _ _ _ _ = _; rw [wn_s (by decide), f0_290]; rfl
theorem f0_291 : at1 code 291 = some (.iconst 3) := at1_of at_291 rfl (by decide)
theorem s0_291 : V0 l Z b K (q + 1) 291 ls st H cN sN = (V0 l Z b K q 292 ls (.int 3 :: st) H cN sN) := by show Wn _ _ _ _ _ _ _ _ _ _ _ _ _ _ _ (q + 1) _ _ _ _ _ _ = _; rw [wn_s (by decide), f0_291]; rfl
theorem f0_292 : at1 code 292 = some (.if_icmp .le 20) := at1_of at_292 rfl (by decide)
theorem s0_292 : V0 l Z b K (q + 1) 292 ls st H cN sN = (popI st fun y r => popI r fun x r => if y < x then V0 l Z b K q 295 ls r H cN sN else V0 l Z b K q 312 ls r H cN sN) := by show Wn _ _ _ _ _ _ _ _ _ _ _ _ _ _ _ (q + 1) _ _ _ _ _ _ = _; rw [wn_s (by decide), f0_292]; rfl
theorem f0_295 : at1 code 295 = some (.aload 9) := at1_of at_295 rfl (by decide)
theorem s0_295 : V0 l Z b K (q + 1) 295 ls st H cN sN = (ldA ls 9 fun v => V0 l Z b K q 297 ls (v :: st) H cN sN) := by show Wn _ _ _ _ _ _ _ _ _ _ _ _ _ _ _ (q + 1) _ _ _ _ _ _ = _; rw [wn_s (by decide), f0_295]; rfl
theorem f0_297 : at1 code 297 = some (.iload 10) := at1_of at_297 rfl (by decide)
theorem s0_297 : V0 l Z b K (q + 1) 297 ls st H cN sN = (ldI ls 10 fun v => V0 l Z b K q 299 ls (.int v :: st) H cN sN) := by show Wn _ _ _ _ _ _ _ _ _ _ _ _ _ _ _ (q + 1) _ _ _ _ _ _ = _; rw [wn_s (by decide), f0_297]; rfl
theorem f0_299 : at1 code 299 = some (.aload 4) := at1_of at_299 rfl (by decide)
theorem s0_299 : V0 l Z b K (q + 1) 299 ls st H cN sN = (ldA ls 4 fun v => V0 l Z b K q 301 ls (v :: st) H cN sN) := by show Wn _ _ _ _ _ _ _ _ _ _ _ _ _ _ _ (q + 1) _ _ _ _ _ _ = _; rw [wn_s (by decide), f0_299]; rfl
theorem f0_301 : at1 code 301 = some (.iconst 3) := at1_of at_301 rfl (by decide)
theorem s0_301 : V0 l Z b K (q + 1) 301 ls st H cN sN = (V0 l Z b K q 302 ls (.int 3 :: st) H cN sN) := by show Wn _ _ _ _ _ _ _ _ _ _ _ _ _ _ _ (q + 1) _ _ _ _ _ _ = _; rw [wn_s (by decide), f0_301]; rfl
theorem f0_302 : at1 code 302 = some (.iaload) := at1_of at_302 rfl (by decide)
theorem s0_302 : V0 l Z b K (q + 1) 302 ls st H cN sN = (popI st fun j r => popR r fun a r => arr H b.size a fun i ty vs => if ty = .int then idx vs j fun v => V0 l Z b K q 303 ls (v :: r) H cN sN else False) := by show Wn _ _ _ _ _ _ _ _ _ _ _ _ _ _ _ (q + 1) _ _ _ _ _ _ = _; rw [wn_s (by decide), f0_302]; rfl
theorem f0_303 : at1 code 303 = some (.aload 7) := at1_of at_303 rfl (by decide)
theorem s0_303 : V0 l Z b K (q + 1) 303 ls st H cN sN = (ldA ls 7 fun v => V0 l Z b K q 305 ls (v :: st) H cN sN) := by show Wn _ _ _ _ _ _ _ _ _ _ _ _ _ _ _ (q + 1) _ _ _ _ _ _ = _; rw [wn_s (by decide), f0_303]; rfl
theorem f0_305 : at1 code 305 = some (.iconst 3) := at1_of at_305 rfl (by decide)
theorem s0_305 : V0 l Z b K (q + 1) 305 ls st H cN sN = (V0 l Z b K q 306 ls (.int 3 :: st) H cN sN) := by show Wn _ _ _ _ _ _ _ _ _ _ _ _ _ _ _ (q + 1) _ _ _ _ _ _ = _; rw [wn_s (by decide), f0_305]; rfl
theorem f0_306 : at1 code 306 = some (.baload) := at1_of at_306 rfl (by decide)
theorem s0_306 : V0 l Z b K (q + 1) 306 ls st H cN sN = (popI st fun j r => popR r fun a r => arr H b.size a fun i ty vs => if ty = .byte then idx vs j fun v => V0 l Z b K q 307 ls (v :: r) H cN sN else False) := by show Wn _ _ _ _ _ _ _ _ _ _ _ _ _ _ _ (q + 1) _ _ _ _ _ _ = _; rw [wn_s (by decide), f0_306]; rfl
theorem f0_307 : at1 code 307 = some (.invokestatic 13) := at1_of at_307 rfl (by decide)
theorem s0_307 : V0 l Z b K (q + 1) 307 ls st H cN sN = (G0 l Z b K 307 ls st H cN sN) := by show Wn _ _ _ _ _ _ _ _ _ _ _ _ _ _ _ (q + 1) _ _ _ _ _ _ = _; rw [wn_s (by decide), f0_307]; rfl
theorem f0_310 : at1 code 310 = some (.istore 10) := at1_of at_310 rfl (by decide)
theorem s0_310 : V0 l Z b K (q + 1) 310 ls st H cN sN = (popI st fun v r => sto1 ls 10 (.int v) fun l' => V0 l Z b K q 312 l' r H cN sN) := by show Wn _ _ _ _ _ _ _ _ _ _ _ _ _ _ _ (q + 1) _ _ _ _ _ _ = _; rw [wn_s (by decide), f0_310]; rfl
theorem f0_312 : at1 code 312 = some (.iload 5) := at1_of at_312 rfl (by decide)
theorem s0_312 : V0 l Z b K (q + 1) 312 ls st H cN sN = (ldI ls 5 fun v => V0 l Z b K q 314 ls (.int v :: st) H cN sN) := by show Wn _ _ _ _ _ _ _ _ _ _ _ _ _ _ _ (q + 1) _ _ _ _ _ _ = _; rw [wn_s (by decide), f0_312]; rfl
theorem f0_314 : at1 code 314 = some (.iconst 1) := at1_of at_314 rfl (by decide)
theorem s0_314 : V0 l Z b K (q + 1) 314 ls st H cN sN = (V0 l Z b K q 315 ls (.int 1 :: st) H cN sN) := by show Wn _ _ _ _ _ _ _ _ _ _ _ _ _ _ _ (q + 1) _ _ _ _ _ _ = _; rw [wn_s (by decide), f0_314]; rfl
theorem f0_315 : at1 code 315 = some (.if_icmp .ne 9) := at1_of at_315 rfl (by decide)
theorem s0_315 : V0 l Z b K (q + 1) 315 ls st H cN sN = (popI st fun y r => popI r fun x r => if x = y then V0 l Z b K q 318 ls r H cN sN else V0 l Z b K q 324 ls r H cN sN) := by show Wn _ _ _ _ _ _ _ _ _ _ _ _ _ _ _ (q + 1) _ _ _ _ _ _ = _; rw [wn_s (by decide), f0_315]; rfl
theorem f0_318 : at1 code 318 = some (.aload 9) := at1_of at_318 rfl (by decide)
theorem s0_318 : V0 l Z b K (q + 1) 318 ls st H cN sN = (ldA ls 9 fun v => V0 l Z b K q 320 ls (v :: st) H cN sN) := by show Wn _ _ _ _ _ _ _ _ _ _ _ _ _ _ _ (q + 1) _ _ _ _ _ _ = _; rw [wn_s (by decide), f0_318]; rfl
theorem f0_320 : at1 code 320 = some (.iload 10) := at1_of at_320 rfl (by decide)
theorem s0_320 : V0 l Z b K (q + 1) 320 ls st H cN sN = (ldI ls 10 fun v => V0 l Z b K q 322 ls (.int v :: st) H cN sN) := by show Wn _ _ _ _ _ _ _ _ _ _ _ _ _ _ _ (q + 1) _ _ _ _ _ _ = _; rw [wn_s (by decide), f0_320]; rfl
theorem f0_322 : at1 code 322 = some (.iconst 0) := at1_of at_322 rfl (by decide)
theorem s0_322 : V0 l Z b K (q + 1) 322 ls st H cN sN = (V0 l Z b K q 323 ls (.int 0 :: st) H cN sN) := by show Wn _ _ _ _ _ _ _ _ _ _ _ _ _ _ _ (q + 1) _ _ _ _ _ _ = _; rw [wn_s (by decide), f0_322]; rfl
theorem f0_323 : at1 code 323 = some (.bastore) := at1_of at_323 rfl (by decide)
theorem s0_323 : V0 l Z b K (q + 1) 323 ls st H cN sN = (popI st fun x r => popI r fun j r => popR r fun a r => arr H b.size a fun i ty vs => if ty = .byte then idx vs j fun _ => setN vs j.toNatClampNeg (.int (nar .byte x)) fun vs' => setH H i (.inl (.byte, vs')) fun H' => V0 l Z b K q 324 ls r H' cN sN else False) := by show Wn _ _ _ _ _ _ _ _ _ _ _ _ _ _ _ (q + 1) _ _ _ _ _ _ = _; rw [wn_s (by decide), f0_323]; rfl
theorem f0_324 : at1 code 324 = some (.aload 9) := at1_of at_324 rfl (by decide)
theorem s0_324 : V0 l Z b K (q + 1) 324 ls st H cN sN = (ldA ls 9 fun v => V0 l Z b K q 326 ls (v :: st) H cN sN) := by show Wn _ _ _ _ _ _ _ _ _ _ _ _ _ _ _ (q + 1) _ _ _ _ _ _ = _; rw [wn_s (by decide), f0_324]; rfl
theorem f0_326 : at1 code 326 = some (.iload 6) := at1_of at_326 rfl (by decide)
theorem s0_326 : V0 l Z b K (q + 1) 326 ls st H cN sN = (ldI ls 6 fun v => V0 l Z b K q 328 ls (.int v :: st) H cN sN) := by show Wn _ _ _ _ _ _ _ _ _ _ _ _ _ _ _ (q + 1) _ _ _ _ _ _ = _; rw [wn_s (by decide), f0_326]; rfl
theorem f0_328 : at1 code 328 = some (.invokestatic 17) := at1_of at_328 rfl (by decide)
theorem s0_328 : V0 l Z b K (q + 1) 328 ls st H cN sN = (G0 l Z b K 328 ls st H cN sN) := by show Wn _ _ _ _ _ _ _ _ _ _ _ _ _ _ _ (q + 1) _ _ _ _ _ _ = _; rw [wn_s (by decide), f0_328]; rfl
theorem f0_331 : at1 code 331 = some (.aload 4) := at1_of at_331 rfl (by decide)
theorem s0_331 : V0 l Z b K (q + 1) 331 ls st H cN sN = (ldA ls 4 fun v => V0 l Z b K q 333 ls (v :: st) H cN sN) := by show Wn _ _ _ _ _ _ _ _ _ _ _ _ _ _ _ (q + 1) _ _ _ _ _ _ = _; rw [wn_s (by decide), f0_331]; rfl
theorem f0_333 : at1 code 333 = some (.iload_n 3) := at1_of at_333 rfl (by decide)
theorem s0_333 : V0 l Z b K (q + 1) 333 ls st H cN sN = (ldI ls 3 fun v => V0 l Z b K q 334 ls (.int v :: st) H cN sN) := by show Wn _ _ _ _ _ _ _ _ _ _ _ _ _ _ _ (q + 1) _ _ _ _ _ _ = _; rw [wn_s (by decide), f0_333]; rfl
theorem f0_334 : at1 code 334 = some (.iload 6) := at1_of at_334 rfl (by decide)
theorem s0_334 : V0 l Z b K (q + 1) 334 ls st H cN sN = (ldI ls 6 fun v => V0 l Z b K q 336 ls (.int v :: st) H cN sN) := by show Wn _ _ _ _ _ _ _ _ _ _ _ _ _ _ _ (q + 1) _ _ _ _ _ _ = _; rw [wn_s (by decide), f0_334]; rfl
theorem f0_336 : at1 code 336 = some (.invokestatic 23) := at1_of at_336 rfl (by decide)
theorem s0_336 : V0 l Z b K (q + 1) 336 ls st H cN sN = (G0 l Z b K 336 ls st H cN sN) := by show Wn _ _ _ _ _ _ _ _ _ _ _ _ _ _ _ (q + 1) _ _ _ _ _ _ = _; rw [wn_s (by decide), f0_336]; rfl
theorem f0_339 : at1 code 339 = some (.if_icmp .ne 7) := at1_of at_339 rfl (by decide)
theorem s0_339 : V0 l Z b K (q + 1) 339 ls st H cN sN = (popI st fun y r => popI r fun x r => if x = y then V0 l Z b K q 342 ls r H cN sN else V0 l Z b K q 346 ls r H cN sN) := by show Wn _ _ _ _ _ _ _ _ _ _ _ _ _ _ _ (q + 1) _ _ _ _ _ _ = _; rw [wn_s (by decide), f0_339]; rfl
theorem f0_342 : at1 code 342 = some (.iconst 1) := at1_of at_342 rfl (by decide)
theorem s0_342 : V0 l Z b K (q + 1) 342 ls st H cN sN = (V0 l Z b K q 343 ls (.int 1 :: st) H cN sN) := by show Wn _ _ _ _ _ _ _ _ _ _ _ _ _ _ _ (q + 1) _ _ _ _ _ _ = _; rw [wn_s (by decide), f0_342]; rfl
theorem f0_343 : at1 code 343 = some (.goto 4) := at1_of at_343 rfl (by decide)
theorem s0_343 : V0 l Z b K (q + 1) 343 ls st H cN sN = (V0 l Z b K q 347 ls st H cN sN) := by show Wn _ _ _ _ _ _ _ _ _ _ _ _ _ _ _ (q + 1) _ _ _ _ _ _ = _; rw [wn_s (by decide), f0_343]; rfl
theorem f0_346 : at1 code 346 = some (.iconst 0) := at1_of at_346 rfl (by decide)
theorem s0_346 : V0 l Z b K (q + 1) 346 ls st H cN sN = (V0 l Z b K q 347 ls (.int 0 :: st) H cN sN) := by show Wn _ _ _ _ _ _ _ _ _ _ _ _ _ _ _ (q + 1) _ _ _ _ _ _ = _; rw [wn_s (by decide), f0_346]; rfl
theorem f0_347 : at1 code 347 = some (.ireturn) := at1_of at_347 rfl (by decide)
theorem s0_347 : V0 l Z b K (q + 1) 347 ls st H cN sN = (popI st fun x r => if cN ≤ 16 ∧ sN ≤ 128 then K (some (.int (nar .boolean x))) H else False) := by show Wn _ _ _ _ _ _ _ _ _ _ _ _ _ _ _ (q + 1) _ _ _ _ _ _ = _; rw [wn_s (by decide), f0_347]; rfl
theorem S0 : type_of% @z0 ∧ type_of% @s0_0 ∧ type_of% @s0_1 ∧ type_of% @s0_3 ∧ type_of% @s0_4 ∧ type_of% @s0_5 ∧ type_of% @s0_6 ∧ type_of% @s0_7 ∧ type_of% @s0_8 ∧ type_of% @s0_10 ∧ type_of% @s0_12 ∧ type_of% @s0_14 ∧ type_of% @s0_15 ∧ type_of% @s0_16 ∧ type_of% @s0_17 ∧ type_of% @s0_18 ∧ type_of% @s0_19 ∧ type_of% @s0_20 ∧ type_of% @s0_21 ∧ type_of% @s0_23 ∧ type_of% @s0_24 ∧ type_of% @s0_25 ∧ type_of% @s0_26 ∧ type_of% @s0_27 ∧ type_of% @s0_28 ∧ type_of% @s0_29 ∧ type_of% @s0_30 ∧ type_of% @s0_32 ∧ type_of% @s0_33 ∧ type_of% @s0_34 ∧ type_of% @s0_36 ∧ type_of% @s0_37 ∧ type_of% @s0_38 ∧ type_of% @s0_39 ∧ type_of% @s0_40 ∧ type_of% @s0_42 ∧ type_of% @s0_43 ∧ type_of% @s0_44 ∧ type_of% @s0_46 ∧ type_of% @s0_47 ∧ type_of% @s0_48 ∧ type_of% @s0_49 ∧ type_of% @s0_50 ∧ type_of% @s0_51 ∧ type_of% @s0_53 ∧ type_of% @s0_54 ∧ type_of% @s0_55 ∧ type_of% @s0_56 ∧ type_of% @s0_58 ∧ type_of% @s0_59 ∧ type_of% @s0_61 ∧ type_of% @s0_62 ∧ type_of% @s0_63 ∧ type_of% @s0_64 ∧ type_of% @s0_65 ∧ type_of% @s0_66 ∧ type_of% @s0_68 ∧ type_of% @s0_69 ∧ type_of% @s0_71 ∧ type_of% @s0_73 ∧ type_of% @s0_75 ∧ type_of% @s0_76 ∧ type_of% @s0_77 ∧ type_of% @s0_79 ∧ type_of% @s0_80 ∧ type_of% @s0_81 ∧ type_of% @s0_82 ∧ type_of% @s0_83 ∧ type_of% @s0_85 ∧ type_of% @s0_86 ∧ type_of% @s0_87 ∧ type_of% @s0_89 ∧ type_of% @s0_90 ∧ type_of% @s0_91 ∧ type_of% @s0_92 ∧ type_of% @s0_93 ∧ type_of% @s0_95 ∧ type_of% @s0_96 ∧ type_of% @s0_97 ∧ type_of% @s0_99 ∧ type_of% @s0_100 ∧ type_of% @s0_101 ∧ type_of% @s0_102 ∧ type_of% @s0_103 ∧ type_of% @s0_105 ∧ type_of% @s0_106 ∧ type_of% @s0_107 ∧ type_of% @s0_109 ∧ type_of% @s0_110 ∧ type_of% @s0_111 ∧ type_of% @s0_112 ∧ type_of% @s0_113 ∧ type_of% @s0_115 ∧ type_of% @s0_117 ∧ type_of% @s0_118 ∧ type_of% @s0_120 ∧ type_of% @s0_121 ∧ type_of% @s0_124 ∧ type_of% @s0_126 ∧ type_of% @s0_128 ∧ type_of% @s0_129 ∧ type_of% @s0_130 ∧ type_of% @s0_133 ∧ type_of% @s0_134 ∧ type_of% @s0_136 ∧ type_of% @s0_137 ∧ type_of% @s0_138 ∧ type_of% @s0_141 ∧ type_of% @s0_143 ∧ type_of% @s0_145 ∧ type_of% @s0_146 ∧ type_of% @s0_147 ∧ type_of% @s0_150 ∧ type_of% @s0_151 ∧ type_of% @s0_153 ∧ type_of% @s0_154 ∧ type_of% @s0_155 ∧ type_of% @s0_158 ∧ type_of% @s0_160 ∧ type_of% @s0_162 ∧ type_of% @s0_163 ∧ type_of% @s0_164 ∧ type_of% @s0_167 ∧ type_of% @s0_168 ∧ type_of% @s0_170 ∧ type_of% @s0_171 ∧ type_of% @s0_172 ∧ type_of% @s0_175 ∧ type_of% @s0_177 ∧ type_of% @s0_179 ∧ type_of% @s0_180 ∧ type_of% @s0_181 ∧ type_of% @s0_184 ∧ type_of% @s0_185 ∧ type_of% @s0_187 ∧ type_of% @s0_189 ∧ type_of% @s0_191 ∧ type_of% @s0_193 ∧ type_of% @s0_195 ∧ type_of% @s0_198 ∧ type_of% @s0_200 ∧ type_of% @s0_201 ∧ type_of% @s0_202 ∧ type_of% @s0_203 ∧ type_of% @s0_204 ∧ type_of% @s0_205 ∧ type_of% @s0_207 ∧ type_of% @s0_208 ∧ type_of% @s0_211 ∧ type_of% @s0_213 ∧ type_of% @s0_214 ∧ type_of% @s0_215 ∧ type_of% @s0_217 ∧ type_of% @s0_218 ∧ type_of% @s0_219 ∧ type_of% @s0_220 ∧ type_of% @s0_221 ∧ type_of% @s0_223 ∧ type_of% @s0_225 ∧ type_of% @s0_226 ∧ type_of% @s0_229 ∧ type_of% @s0_231 ∧ type_of% @s0_233 ∧ type_of% @s0_235 ∧ type_of% @s0_236 ∧ type_of% @s0_237 ∧ type_of% @s0_239 ∧ type_of% @s0_240 ∧ type_of% @s0_241 ∧ type_of% @s0_244 ∧ type_of% @s0_246 ∧ type_of% @s0_247 ∧ type_of% @s0_248 ∧ type_of% @s0_251 ∧ type_of% @s0_253 ∧ type_of% @s0_255 ∧ type_of% @s0_257 ∧ type_of% @s0_258 ∧ type_of% @s0_259 ∧ type_of% @s0_261 ∧ type_of% @s0_262 ∧ type_of% @s0_263 ∧ type_of% @s0_266 ∧ type_of% @s0_268 ∧ type_of% @s0_269 ∧ type_of% @s0_270 ∧ type_of% @s0_273 ∧ type_of% @s0_275 ∧ type_of% @s0_277 ∧ type_of% @s0_279 ∧ type_of% @s0_280 ∧ type_of% @s0_281 ∧ type_of% @s0_283 ∧ type_of% @s0_284 ∧ type_of% @s0_285 ∧ type_of% @s0_288 ∧ type_of% @s0_290 ∧ type_of% @s0_291 ∧ type_of% @s0_292 ∧ type_of% @s0_295 ∧ type_of% @s0_297 ∧ type_of% @s0_299 ∧ type_of% @s0_301 ∧ type_of% @s0_302 ∧ type_of% @s0_303 ∧ type_of% @s0_305 ∧ type_of% @s0_306 ∧ type_of% @s0_307 ∧ type_of% @s0_310 ∧ type_of% @s0_312 ∧ type_of% @s0_314 ∧ type_of% @s0_315 ∧ type_of% @s0_318 ∧ type_of% @s0_320 ∧ type_of% @s0_322 ∧ type_of% @s0_323 ∧ type_of% @s0_324 ∧ type_of% @s0_326 ∧ type_of% @s0_328 ∧ type_of% @s0_331 ∧ type_of% @s0_333 ∧ type_of% @s0_334 ∧ type_of% @s0_336 ∧ type_of% @s0_339 ∧ type_of% @s0_342 ∧ type_of% @s0_343 ∧ type_of% @s0_346 ∧ type_of% @s0_347 := ⟨@z0, @s0_0, @s0_1, @s0_3, @s0_4, @s0_5, @s0_6, @s0_7, @s0_8, @s0_10, @s0_12, @s0_14, @s0_15, @s0_16, @s0_17, @s0_18, @s0_19, @s0_20, @s0_21, @s0_23, @s0_24, @s0_25, @s0_26, @s0_27, @s0_28, @s0_29, @s0_30, @s0_32, @s0_33, @s0_34, @s0_36, @s0_37, @s0_38, @s0_39, @s0_40, @s0_42, @s0_43, @s0_44, @s0_46, @s0_47, @s0_48, @s0_49, @s0_50, @s0_51, @s0_53, @s0_54, @s0_55, @s0_56, @s0_58, @s0_59, @s0_61, @s0_62, @s0_63, @s0_64, @s0_65, @s0_66, @s0_68, @s0_69, @s0_71, @s0_73, @s0_75, @s0_76, @s0_77, @s0_79, @s0_80, @s0_81, @s0_82, @s0_83, @s0_85, @s0_86, @s0_87, @s0_89, @s0_90, @s0_91, @s0_92, @s0_93, @s0_95, @s0_96, @s0_97, @s0_99, @s0_100, @s0_101, @s0_102, @s0_103, @s0_105, @s0_106, @s0_107, @s0_109, @s0_110, @s0_111, @s0_112, @s0_113, @s0_115, @s0_117, @s0_118, @s0_120, @s0_121, @s0_124, @s0_126, @s0_128, @s0_129, @s0_130, @s0_133, @s0_134, @s0_136, @s0_137, @s0_138, @s0_141, @s0_143, @s0_145, @s0_146, @s0_147, @s0_150, @s0_151, @s0_153, @s0_154, @s0_155, @s0_158, @s0_160, @s0_162, @s0_163, @s0_164, @s0_167, @s0_168, @s0_170, @s0_171, @s0_172, @s0_175, @s0_177, @s0_179, @s0_180, @s0_181, @s0_184, @s0_185, @s0_187, @s0_189, @s0_191, @s0_193, @s0_195, @s0_198, @s0_200, @s0_201, @s0_202, @s0_203, @s0_204, @s0_205, @s0_207, @s0_208, @s0_211, @s0_213, @s0_214, @s0_215, @s0_217, @s0_218, @s0_219, @s0_220, @s0_221, @s0_223, @s0_225, @s0_226, @s0_229, @s0_231, @s0_233, @s0_235, @s0_236, @s0_237, @s0_239, @s0_240, @s0_241, @s0_244, @s0_246, @s0_247, @s0_248, @s0_251, @s0_253, @s0_255, @s0_257, @s0_258, @s0_259, @s0_261, @s0_262, @s0_263, @s0_266, @s0_268, @s0_269, @s0_270, @s0_273, @s0_275, @s0_277, @s0_279, @s0_280, @s0_281, @s0_283, @s0_284, @s0_285, @s0_288, @s0_290, @s0_291, @s0_292, @s0_295, @s0_297, @s0_299, @s0_301, @s0_302, @s0_303, @s0_305, @s0_306, @s0_307, @s0_310, @s0_312, @s0_314, @s0_315, @s0_318, @s0_320, @s0_322, @s0_323, @s0_324, @s0_326, @s0_328, @s0_331, @s0_333, @s0_334, @s0_336, @s0_339, @s0_342, @s0_343, @s0_346, @s0_347⟩
theorem ef0 (m : MethodId) (x0 : Int32) (x1 : Int64) : entryFrame m [.int x0, .long x1].toArray maxLocals = mkF m 0 [.val (.int x0), .val (.long x1), .second, .unset, .unset, .unset, .unset, .unset, .unset, .unset, .unset].toArray [] := by first | (simp [entryFrame, mkF, argsToLocals, Value.category, maxLocals, List.replicate]; done) | rfl
end Body0
def R1 : Room := { frames := 0, cells := 0, slots := 0, locals := 0 }
def y1 : MethodName := ⟨"com/example/rowkey/rowkey/EndedParts", "endOf", "([BI)I"⟩
def G1 (l : Launch) (Z : State) (b : Heap) (K : Option Value → List Cel → Prop) : Cont := G prog_19_method_4_code "com/example/rowkey/rowkey/EndedParts" "endOf" 3 (some .int) R1 tables_1 l Z b 0 0 K
def V1 (l : Launch) (Z : State) (b : Heap) (K : Option Value → List Cel → Prop) : Nat → Cont := Wn [2] prog_19_method_4_code [] [] [] [] [] [] (some .int) R1 b.size 0 0 K (G1 l Z b K)
section Body1
variable {l : Launch} {Z : State} {b : Heap} {K : Option Value → List Cel → Prop} {q : Nat} {ls : List Slot} {st : List Value} {H : List Cel} {cN sN : Nat}
theorem r1 (q : Nat) {pc : Nat} (h : V1 l Z b K q pc ls st H cN sN) : G1 l Z b K pc ls st H cN sN := G.run q (by intro x hx; cases hx) (by intro x hx; cases hx) (by intro x hx; cases hx) (by intro x hx; cases hx) (by intro x hx; cases hx) (by intro x hx; cases hx) h
theorem z1 {pc : Nat} : V1 l Z b K 0 pc ls st H cN sN = G1 l Z b K pc ls st H cN sN := propext Iff.rfl
theorem f1_0 : at1 prog_19_method_4_code 0 = some (.iload_n 1) := by decide +kernel
theorem s1_0 : V1 l Z b K (q + 1) 0 ls st H cN sN = (ldI ls 1 fun v => V1 l Z b K q 1 ls (.int v :: st) H cN sN) := by show Wn _ _ _ _ _ _ _ _ _ _ _ _ _ _ _ (q + 1) _ _ _ _ _ _ = _; rw [wn_s (by decide), f1_0]; rfl
theorem f1_1 : at1 prog_19_method_4_code 1 = some (.istore_n 2) := by decide +kernel
theorem s1_1 : V1 l Z b K (q + 1) 1 ls st H cN sN = (popI st fun v r => sto1 ls 2 (.int v) fun l' => V1 l Z b K q 2 l' r H cN sN) := by show Wn _ _ _ _ _ _ _ _ _ _ _ _ _ _ _ (q + 1) _ _ _ _ _ _ = _; rw [wn_s (by decide), f1_1]; rfl
theorem f1_2 : at1 prog_19_method_4_code 2 = some (.iload_n 2) := by decide +kernel
theorem s1_2 : V1 l Z b K (q + 1) 2 ls st H cN sN = G1 l Z b K 2 ls st H cN sN := wn_p (by decide)
theorem e1_2 (q : Nat) (h : ldI ls 2 fun v => V1 l Z b K q 3 ls (.int v :: st) H cN sN) : G1 l Z b K 2 ls st H cN sN := G.enter (S := [2]) (CI := []) (CL := []) (FL := []) (AL := []) (PL := []) (NL := []) q (by intro x hx; cases hx) (by intro x hx; cases hx) (by intro x hx; cases hx) (by intro x hx; cases hx) (by intro x hx; cases hx) (by intro x hx; cases hx) f1_2 h
theorem f1_3 : at1 prog_19_method_4_code 3 = some (.iconst 1) := by decide +kernel
theorem s1_3 : V1 l Z b K (q + 1) 3 ls st H cN sN = (V1 l Z b K q 4 ls (.int 1 :: st) H cN sN) := by show Wn _ _ _ _ _ _ _ _ _ _ _ _ _ _ _ (q + 1) _ _ _ _ _ _ = _; rw [wn_s (by decide), f1_3]; rfl
theorem f1_4 : at1 prog_19_method_4_code 4 = some (.iadd) := by decide +kernel
theorem s1_4 : V1 l Z b K (q + 1) 4 ls st H cN sN = (popI st fun y r => popI r fun x r => V1 l Z b K q 5 ls (.int (x + y) :: r) H cN sN) := by show Wn _ _ _ _ _ _ _ _ _ _ _ _ _ _ _ (q + 1) _ _ _ _ _ _ = _; rw [wn_s (by decide), f1_4]; rfl
theorem f1_5 : at1 prog_19_method_4_code 5 = some (.aload_n 0) := by decide +kernel
theorem s1_5 : V1 l Z b K (q + 1) 5 ls st H cN sN = (ldA ls 0 fun v => V1 l Z b K q 6 ls (v :: st) H cN sN) := by show Wn _ _ _ _ _ _ _ _ _ _ _ _ _ _ _ (q + 1) _ _ _ _ _ _ = _; rw [wn_s (by decide), f1_5]; rfl
theorem f1_6 : at1 prog_19_method_4_code 6 = some (.arraylength) := by decide +kernel
theorem s1_6 : V1 l Z b K (q + 1) 6 ls st H cN sN = (popR st fun a r => arr H b.size a fun i ty vs => V1 l Z b K q 7 ls (.int (Int32.ofNat vs.length) :: r) H cN sN) := by show Wn _ _ _ _ _ _ _ _ _ _ _ _ _ _ _ (q + 1) _ _ _ _ _ _ = _; rw [wn_s (by decide), f1_6]; rfl
theorem f1_7 : at1 prog_19_method_4_code 7 = some (.if_icmp .ge 41) := by decide +kernel
theorem s1_7 : V1 l Z b K (q + 1) 7 ls st H cN sN = (popI st fun y r => popI r fun x r => if x < y then V1 l Z b K q 10 ls r H cN sN else V1 l Z b K q 48 ls r H cN sN) := by show Wn _ _ _ _ _ _ _ _ _ _ _ _ _ _ _ (q + 1) _ _ _ _ _ _ = _; rw [wn_s (by decide), f1_7]; rfl
theorem f1_10 : at1 prog_19_method_4_code 10 = some (.aload_n 0) := by decide +kernel
theorem s1_10 : V1 l Z b K (q + 1) 10 ls st H cN sN = (ldA ls 0 fun v => V1 l Z b K q 11 ls (v :: st) H cN sN) := by show Wn _ _ _ _ _ _ _ _ _ _ _ _ _ _ _ (q + 1) _ _ _ _ _ _ = _; rw [wn_s (by decide), f1_10]; rfl
theorem f1_11 : at1 prog_19_method_4_code 11 = some (.iload_n 2) := by decide +kernel
theorem s1_11 : V1 l Z b K (q + 1) 11 ls st H cN sN = (ldI ls 2 fun v => V1 l Z b K q 12 ls (.int v :: st) H cN sN) := by show Wn _ _ _ _ _ _ _ _ _ _ _ _ _ _ _ (q + 1) _ _ _ _ _ _ = _; rw [wn_s (by decide), f1_11]; rfl
theorem f1_12 : at1 prog_19_method_4_code 12 = some (.baload) := by decide +kernel
theorem s1_12 : V1 l Z b K (q + 1) 12 ls st H cN sN = (popI st fun j r => popR r fun a r => arr H b.size a fun i ty vs => if ty = .byte then idx vs j fun v => V1 l Z b K q 13 ls (v :: r) H cN sN else False) := by show Wn _ _ _ _ _ _ _ _ _ _ _ _ _ _ _ (q + 1) _ _ _ _ _ _ = _; rw [wn_s (by decide), f1_12]; rfl
theorem f1_13 : at1 prog_19_method_4_code 13 = some (.ifCond .ne 29) := by decide +kernel
theorem s1_13 : V1 l Z b K (q + 1) 13 ls st H cN sN = (popI st fun x r => if x = 0 then V1 l Z b K q 16 ls r H cN sN else V1 l Z b K q 42 ls r H cN sN) := by show Wn _ _ _ _ _ _ _ _ _ _ _ _ _ _ _ (q + 1) _ _ _ _ _ _ = _; rw [wn_s (by decide), f1_13]; rfl
theorem f1_16 : at1 prog_19_method_4_code 16 = some (.aload_n 0) := by decide +kernel
theorem s1_16 : V1 l Z b K (q + 1) 16 ls st H cN sN = (ldA ls 0 fun v => V1 l Z b K q 17 ls (v :: st) H cN sN) := by show Wn _ _ _ _ _ _ _ _ _ _ _ _ _ _ _ (q + 1) _ _ _ _ _ _ = _; rw [wn_s (by decide), f1_16]; rfl
theorem f1_17 : at1 prog_19_method_4_code 17 = some (.iload_n 2) := by decide +kernel
theorem s1_17 : V1 l Z b K (q + 1) 17 ls st H cN sN = (ldI ls 2 fun v => V1 l Z b K q 18 ls (.int v :: st) H cN sN) := by show Wn _ _ _ _ _ _ _ _ _ _ _ _ _ _ _ (q + 1) _ _ _ _ _ _ = _; rw [wn_s (by decide), f1_17]; rfl
theorem f1_18 : at1 prog_19_method_4_code 18 = some (.iconst 1) := by decide +kernel
theorem s1_18 : V1 l Z b K (q + 1) 18 ls st H cN sN = (V1 l Z b K q 19 ls (.int 1 :: st) H cN sN) := by show Wn _ _ _ _ _ _ _ _ _ _ _ _ _ _ _ (q + 1) _ _ _ _ _ _ = _; rw [wn_s (by decide), f1_18]; rfl
theorem f1_19 : at1 prog_19_method_4_code 19 = some (.iadd) := by decide +kernel
theorem s1_19 : V1 l Z b K (q + 1) 19 ls st H cN sN = (popI st fun y r => popI r fun x r => V1 l Z b K q 20 ls (.int (x + y) :: r) H cN sN) := by show Wn _ _ _ _ _ _ _ _ _ _ _ _ _ _ _ (q + 1) _ _ _ _ _ _ = _; rw [wn_s (by decide), f1_19]; rfl
theorem f1_20 : at1 prog_19_method_4_code 20 = some (.baload) := by decide +kernel
theorem s1_20 : V1 l Z b K (q + 1) 20 ls st H cN sN = (popI st fun j r => popR r fun a r => arr H b.size a fun i ty vs => if ty = .byte then idx vs j fun v => V1 l Z b K q 21 ls (v :: r) H cN sN else False) := by show Wn _ _ _ _ _ _ _ _ _ _ _ _ _ _ _ (q + 1) _ _ _ _ _ _ = _; rw [wn_s (by decide), f1_20]; rfl
theorem f1_21 : at1 prog_19_method_4_code 21 = some (.iconst 1) := by decide +kernel
theorem s1_21 : V1 l Z b K (q + 1) 21 ls st H cN sN = (V1 l Z b K q 22 ls (.int 1 :: st) H cN sN) := by show Wn _ _ _ _ _ _ _ _ _ _ _ _ _ _ _ (q + 1) _ _ _ _ _ _ = _; rw [wn_s (by decide), f1_21]; rfl
theorem f1_22 : at1 prog_19_method_4_code 22 = some (.if_icmp .ne 5) := by decide +kernel
theorem s1_22 : V1 l Z b K (q + 1) 22 ls st H cN sN = (popI st fun y r => popI r fun x r => if x = y then V1 l Z b K q 25 ls r H cN sN else V1 l Z b K q 27 ls r H cN sN) := by show Wn _ _ _ _ _ _ _ _ _ _ _ _ _ _ _ (q + 1) _ _ _ _ _ _ = _; rw [wn_s (by decide), f1_22]; rfl
theorem f1_25 : at1 prog_19_method_4_code 25 = some (.iload_n 2) := by decide +kernel
theorem s1_25 : V1 l Z b K (q + 1) 25 ls st H cN sN = (ldI ls 2 fun v => V1 l Z b K q 26 ls (.int v :: st) H cN sN) := by show Wn _ _ _ _ _ _ _ _ _ _ _ _ _ _ _ (q + 1) _ _ _ _ _ _ = _; rw [wn_s (by decide), f1_25]; rfl
theorem f1_26 : at1 prog_19_method_4_code 26 = some (.ireturn) := by decide +kernel
theorem s1_26 : V1 l Z b K (q + 1) 26 ls st H cN sN = (popI st fun x r => if cN ≤ 0 ∧ sN ≤ 0 then K (some (.int x)) H else False) := by show Wn _ _ _ _ _ _ _ _ _ _ _ _ _ _ _ (q + 1) _ _ _ _ _ _ = _; rw [wn_s (by decide), f1_26]; rfl
theorem f1_27 : at1 prog_19_method_4_code 27 = some (.aload_n 0) := by decide +kernel
theorem s1_27 : V1 l Z b K (q + 1) 27 ls st H cN sN = (ldA ls 0 fun v => V1 l Z b K q 28 ls (v :: st) H cN sN) := by show Wn _ _ _ _ _ _ _ _ _ _ _ _ _ _ _ (q + 1) _ _ _ _ _ _ = _; rw [wn_s (by decide), f1_27]; rfl
theorem f1_28 : at1 prog_19_method_4_code 28 = some (.iload_n 2) := by decide +kernel
theorem s1_28 : V1 l Z b K (q + 1) 28 ls st H cN sN = (ldI ls 2 fun v => V1 l Z b K q 29 ls (.int v :: st) H cN sN) := by show Wn _ _ _ _ _ _ _ _ _ _ _ _ _ _ _ (q + 1) _ _ _ _ _ _ = _; rw [wn_s (by decide), f1_28]; rfl
theorem f1_29 : at1 prog_19_method_4_code 29 = some (.iconst 1) := by decide +kernel
theorem s1_29 : V1 l Z b K (q + 1) 29 ls st H cN sN = (V1 l Z b K q 30 ls (.int 1 :: st) H cN sN) := by show Wn _ _ _ _ _ _ _ _ _ _ _ _ _ _ _ (q + 1) _ _ _ _ _ _ = _; rw [wn_s (by decide), f1_29]; rfl
theorem f1_30 : at1 prog_19_method_4_code 30 = some (.iadd) := by decide +kernel
theorem s1_30 : V1 l Z b K (q + 1) 30 ls st H cN sN = (popI st fun y r => popI r fun x r => V1 l Z b K q 31 ls (.int (x + y) :: r) H cN sN) := by show Wn _ _ _ _ _ _ _ _ _ _ _ _ _ _ _ (q + 1) _ _ _ _ _ _ = _; rw [wn_s (by decide), f1_30]; rfl
theorem f1_31 : at1 prog_19_method_4_code 31 = some (.baload) := by decide +kernel
theorem s1_31 : V1 l Z b K (q + 1) 31 ls st H cN sN = (popI st fun j r => popR r fun a r => arr H b.size a fun i ty vs => if ty = .byte then idx vs j fun v => V1 l Z b K q 32 ls (v :: r) H cN sN else False) := by show Wn _ _ _ _ _ _ _ _ _ _ _ _ _ _ _ (q + 1) _ _ _ _ _ _ = _; rw [wn_s (by decide), f1_31]; rfl
theorem f1_32 : at1 prog_19_method_4_code 32 = some (.iconst (-1)) := by decide +kernel
theorem s1_32 : V1 l Z b K (q + 1) 32 ls st H cN sN = (V1 l Z b K q 33 ls (.int (-1) :: st) H cN sN) := by show Wn _ _ _ _ _ _ _ _ _ _ _ _ _ _ _ (q + 1) _ _ _ _ _ _ = _; rw [wn_s (by decide), f1_32]; rfl
theorem f1_33 : at1 prog_19_method_4_code 33 = some (.if_icmp .eq 6) := by decide +kernel
theorem s1_33 : V1 l Z b K (q + 1) 33 ls st H cN sN = (popI st fun y r => popI r fun x r => if x = y then V1 l Z b K q 39 ls r H cN sN else V1 l Z b K q 36 ls r H cN sN) := by show Wn _ _ _ _ _ _ _ _ _ _ _ _ _ _ _ (q + 1) _ _ _ _ _ _ = _; rw [wn_s (by decide), f1_33]; rfl
theorem f1_36 : at1 prog_19_method_4_code 36 = some (.goto 12) := by decide +kernel
theorem s1_36 : V1 l Z b K (q + 1) 36 ls st H cN sN = (V1 l Z b K q 48 ls st H cN sN) := by show Wn _ _ _ _ _ _ _ _ _ _ _ _ _ _ _ (q + 1) _ _ _ _ _ _ = _; rw [wn_s (by decide), f1_36]; rfl
theorem f1_39 : at1 prog_19_method_4_code 39 = some (.iinc 2 1) := by decide +kernel
theorem s1_39 : V1 l Z b K (q + 1) 39 ls st H cN sN = (ldI ls 2 fun v => setL ls 2 (.val (.int (v + 1))) fun l' => V1 l Z b K q 42 l' st H cN sN) := by show Wn _ _ _ _ _ _ _ _ _ _ _ _ _ _ _ (q + 1) _ _ _ _ _ _ = _; rw [wn_s (by decide), f1_39]; rfl
theorem f1_42 : at1 prog_19_method_4_code 42 = some (.iinc 2 1) := by decide +kernel
theorem s1_42 : V1 l Z b K (q + 1) 42 ls st H cN sN = (ldI ls 2 fun v => setL ls 2 (.val (.int (v + 1))) fun l' => V1 l Z b K q 45 l' st H cN sN) := by show Wn _ _ _ _ _ _ _ _ _ _ _ _ _ _ _ (q + 1) _ _ _ _ _ _ = _; rw [wn_s (by decide), f1_42]; rfl
theorem f1_45 : at1 prog_19_method_4_code 45 = some (.goto (-43)) := by decide +kernel
theorem s1_45 : V1 l Z b K (q + 1) 45 ls st H cN sN = (V1 l Z b K q 2 ls st H cN sN) := by show Wn _ _ _ _ _ _ _ _ _ _ _ _ _ _ _ (q + 1) _ _ _ _ _ _ = _; rw [wn_s (by decide), f1_45]; rfl
theorem f1_48 : at1 prog_19_method_4_code 48 = some (.iconst (-1)) := by decide +kernel
theorem s1_48 : V1 l Z b K (q + 1) 48 ls st H cN sN = (V1 l Z b K q 49 ls (.int (-1) :: st) H cN sN) := by show Wn _ _ _ _ _ _ _ _ _ _ _ _ _ _ _ (q + 1) _ _ _ _ _ _ = _; rw [wn_s (by decide), f1_48]; rfl
theorem f1_49 : at1 prog_19_method_4_code 49 = some (.ireturn) := by decide +kernel
theorem s1_49 : V1 l Z b K (q + 1) 49 ls st H cN sN = (popI st fun x r => if cN ≤ 0 ∧ sN ≤ 0 then K (some (.int x)) H else False) := by show Wn _ _ _ _ _ _ _ _ _ _ _ _ _ _ _ (q + 1) _ _ _ _ _ _ = _; rw [wn_s (by decide), f1_49]; rfl
theorem S1 : type_of% @z1 ∧ type_of% @s1_0 ∧ type_of% @s1_1 ∧ type_of% @s1_2 ∧ type_of% @s1_3 ∧ type_of% @s1_4 ∧ type_of% @s1_5 ∧ type_of% @s1_6 ∧ type_of% @s1_7 ∧ type_of% @s1_10 ∧ type_of% @s1_11 ∧ type_of% @s1_12 ∧ type_of% @s1_13 ∧ type_of% @s1_16 ∧ type_of% @s1_17 ∧ type_of% @s1_18 ∧ type_of% @s1_19 ∧ type_of% @s1_20 ∧ type_of% @s1_21 ∧ type_of% @s1_22 ∧ type_of% @s1_25 ∧ type_of% @s1_26 ∧ type_of% @s1_27 ∧ type_of% @s1_28 ∧ type_of% @s1_29 ∧ type_of% @s1_30 ∧ type_of% @s1_31 ∧ type_of% @s1_32 ∧ type_of% @s1_33 ∧ type_of% @s1_36 ∧ type_of% @s1_39 ∧ type_of% @s1_42 ∧ type_of% @s1_45 ∧ type_of% @s1_48 ∧ type_of% @s1_49 := ⟨@z1, @s1_0, @s1_1, @s1_2, @s1_3, @s1_4, @s1_5, @s1_6, @s1_7, @s1_10, @s1_11, @s1_12, @s1_13, @s1_16, @s1_17, @s1_18, @s1_19, @s1_20, @s1_21, @s1_22, @s1_25, @s1_26, @s1_27, @s1_28, @s1_29, @s1_30, @s1_31, @s1_32, @s1_33, @s1_36, @s1_39, @s1_42, @s1_45, @s1_48, @s1_49⟩
theorem ef1 (m : MethodId) (x0 : Nat) (x1 : Int32) : entryFrame m [.ref x0, .int x1].toArray 3 = mkF m 0 [.val (.ref x0), .val (.int x1), .unset].toArray [] := by first | (simp [entryFrame, mkF, argsToLocals, Value.category, maxLocals, List.replicate]; done) | rfl
theorem pn1 : plainFor y1 = true := by first | decide +kernel | exact plainFor_of_name (by simp [y1, plainName, overriddenIn])
theorem pd1 : parseMethodDescriptor "([BI)I" = some ⟨[(.array .byte), .int], some .int⟩ := by decide +kernel
theorem c1 (x0 : Nat) (x1 : Int32) (g : G1 l Z b K 0 [.val (.ref x0), .val (.int x1), .unset] [] H 0 0) : Con tables_1 l Z b y1 prog_19_method_4_code 3 (some .int) R1 [.ref x0, .int x1] H K := G.con pn1 (fun m => ef1 m x0 x1) g
end Body1
def R2 : Room := { frames := 1, cells := 0, slots := 0, locals := 13 }
def y2 : MethodName := ⟨"com/example/rowkey/rowkey/EndedPartsEndOfPinLaw", "expected", "([III)I"⟩
def G2 (l : Launch) (Z : State) (b : Heap) (K : Option Value → List Cel → Prop) : Cont := G method_5_code "com/example/rowkey/rowkey/EndedPartsEndOfPinLaw" "expected" 4 (some .int) R2 tables_1 l Z b 0 0 K
def V2 (l : Launch) (Z : State) (b : Heap) (K : Option Value → List Cel → Prop) : Nat → Cont := Wn [] method_5_code [] [] [] [] [] [] (some .int) R2 b.size 0 0 K (G2 l Z b K)
section Body2
variable {l : Launch} {Z : State} {b : Heap} {K : Option Value → List Cel → Prop} {q : Nat} {ls : List Slot} {st : List Value} {H : List Cel} {cN sN : Nat}
theorem r2 (q : Nat) {pc : Nat} (h : V2 l Z b K q pc ls st H cN sN) : G2 l Z b K pc ls st H cN sN := G.run q (by intro x hx; cases hx) (by intro x hx; cases hx) (by intro x hx; cases hx) (by intro x hx; cases hx) (by intro x hx; cases hx) (by intro x hx; cases hx) h
theorem z2 {pc : Nat} : V2 l Z b K 0 pc ls st H cN sN = G2 l Z b K pc ls st H cN sN := propext Iff.rfl
theorem f2_0 : at1 method_5_code 0 = some (.iload_n 2) := by decide +kernel
theorem s2_0 : V2 l Z b K (q + 1) 0 ls st H cN sN = (ldI ls 2 fun v => V2 l Z b K q 1 ls (.int v :: st) H cN sN) := by show Wn _ _ _ _ _ _ _ _ _ _ _ _ _ _ _ (q + 1) _ _ _ _ _ _ = _; rw [wn_s (by decide), f2_0]; rfl
theorem f2_1 : at1 method_5_code 1 = some (.istore_n 3) := by decide +kernel
theorem s2_1 : V2 l Z b K (q + 1) 1 ls st H cN sN = (popI st fun v r => sto1 ls 3 (.int v) fun l' => V2 l Z b K q 2 l' r H cN sN) := by show Wn _ _ _ _ _ _ _ _ _ _ _ _ _ _ _ (q + 1) _ _ _ _ _ _ = _; rw [wn_s (by decide), f2_1]; rfl
theorem f2_2 : at1 method_5_code 2 = some (.iload_n 1) := by decide +kernel
theorem s2_2 : V2 l Z b K (q + 1) 2 ls st H cN sN = (ldI ls 1 fun v => V2 l Z b K q 3 ls (.int v :: st) H cN sN) := by show Wn _ _ _ _ _ _ _ _ _ _ _ _ _ _ _ (q + 1) _ _ _ _ _ _ = _; rw [wn_s (by decide), f2_2]; rfl
theorem f2_3 : at1 method_5_code 3 = some (.ifCond .le 30) := by decide +kernel
theorem s2_3 : V2 l Z b K (q + 1) 3 ls st H cN sN = (popI st fun x r => if 0 < x then V2 l Z b K q 6 ls r H cN sN else V2 l Z b K q 33 ls r H cN sN) := by show Wn _ _ _ _ _ _ _ _ _ _ _ _ _ _ _ (q + 1) _ _ _ _ _ _ = _; rw [wn_s (by decide), f2_3]; rfl
theorem f2_6 : at1 method_5_code 6 = some (.aload_n 0) := by decide +kernel
theorem s2_6 : V2 l Z b K (q + 1) 6 ls st H cN sN = (ldA ls 0 fun v => V2 l Z b K q 7 ls (v :: st) H cN sN) := by show Wn _ _ _ _ _ _ _ _ _ _ _ _ _ _ _ (q + 1) _ _ _ _ _ _ = _; rw [wn_s (by decide), f2_6]; rfl
theorem f2_7 : at1 method_5_code 7 = some (.iconst 0) := by decide +kernel
theorem s2_7 : V2 l Z b K (q + 1) 7 ls st H cN sN = (V2 l Z b K q 8 ls (.int 0 :: st) H cN sN) := by show Wn _ _ _ _ _ _ _ _ _ _ _ _ _ _ _ (q + 1) _ _ _ _ _ _ = _; rw [wn_s (by decide), f2_7]; rfl
theorem f2_8 : at1 method_5_code 8 = some (.iaload) := by decide +kernel
theorem s2_8 : V2 l Z b K (q + 1) 8 ls st H cN sN = (popI st fun j r => popR r fun a r => arr H b.size a fun i ty vs => if ty = .int then idx vs j fun v => V2 l Z b K q 9 ls (v :: r) H cN sN else False) := by show Wn _ _ _ _ _ _ _ _ _ _ _ _ _ _ _ (q + 1) _ _ _ _ _ _ = _; rw [wn_s (by decide), f2_8]; rfl
theorem f2_9 : at1 method_5_code 9 = some (.iconst 2) := by decide +kernel
theorem s2_9 : V2 l Z b K (q + 1) 9 ls st H cN sN = (V2 l Z b K q 10 ls (.int 2 :: st) H cN sN) := by show Wn _ _ _ _ _ _ _ _ _ _ _ _ _ _ _ (q + 1) _ _ _ _ _ _ = _; rw [wn_s (by decide), f2_9]; rfl
theorem f2_10 : at1 method_5_code 10 = some (.if_icmp .ne 5) := by decide +kernel
theorem s2_10 : V2 l Z b K (q + 1) 10 ls st H cN sN = (popI st fun y r => popI r fun x r => if x = y then V2 l Z b K q 13 ls r H cN sN else V2 l Z b K q 15 ls r H cN sN) := by show Wn _ _ _ _ _ _ _ _ _ _ _ _ _ _ _ (q + 1) _ _ _ _ _ _ = _; rw [wn_s (by decide), f2_10]; rfl
theorem f2_13 : at1 method_5_code 13 = some (.iload_n 3) := by decide +kernel
theorem s2_13 : V2 l Z b K (q + 1) 13 ls st H cN sN = (ldI ls 3 fun v => V2 l Z b K q 14 ls (.int v :: st) H cN sN) := by show Wn _ _ _ _ _ _ _ _ _ _ _ _ _ _ _ (q + 1) _ _ _ _ _ _ = _; rw [wn_s (by decide), f2_13]; rfl
theorem f2_14 : at1 method_5_code 14 = some (.ireturn) := by decide +kernel
theorem s2_14 : V2 l Z b K (q + 1) 14 ls st H cN sN = (popI st fun x r => if cN ≤ 0 ∧ sN ≤ 0 then K (some (.int x)) H else False) := by show Wn _ _ _ _ _ _ _ _ _ _ _ _ _ _ _ (q + 1) _ _ _ _ _ _ = _; rw [wn_s (by decide), f2_14]; rfl
theorem f2_15 : at1 method_5_code 15 = some (.aload_n 0) := by decide +kernel
theorem s2_15 : V2 l Z b K (q + 1) 15 ls st H cN sN = (ldA ls 0 fun v => V2 l Z b K q 16 ls (v :: st) H cN sN) := by show Wn _ _ _ _ _ _ _ _ _ _ _ _ _ _ _ (q + 1) _ _ _ _ _ _ = _; rw [wn_s (by decide), f2_15]; rfl
theorem f2_16 : at1 method_5_code 16 = some (.iconst 0) := by decide +kernel
theorem s2_16 : V2 l Z b K (q + 1) 16 ls st H cN sN = (V2 l Z b K q 17 ls (.int 0 :: st) H cN sN) := by show Wn _ _ _ _ _ _ _ _ _ _ _ _ _ _ _ (q + 1) _ _ _ _ _ _ = _; rw [wn_s (by decide), f2_16]; rfl
theorem f2_17 : at1 method_5_code 17 = some (.iaload) := by decide +kernel
theorem s2_17 : V2 l Z b K (q + 1) 17 ls st H cN sN = (popI st fun j r => popR r fun a r => arr H b.size a fun i ty vs => if ty = .int then idx vs j fun v => V2 l Z b K q 18 ls (v :: r) H cN sN else False) := by show Wn _ _ _ _ _ _ _ _ _ _ _ _ _ _ _ (q + 1) _ _ _ _ _ _ = _; rw [wn_s (by decide), f2_17]; rfl
theorem f2_18 : at1 method_5_code 18 = some (.iconst 3) := by decide +kernel
theorem s2_18 : V2 l Z b K (q + 1) 18 ls st H cN sN = (V2 l Z b K q 19 ls (.int 3 :: st) H cN sN) := by show Wn _ _ _ _ _ _ _ _ _ _ _ _ _ _ _ (q + 1) _ _ _ _ _ _ = _; rw [wn_s (by decide), f2_18]; rfl
theorem f2_19 : at1 method_5_code 19 = some (.if_icmp .ne 5) := by decide +kernel
theorem s2_19 : V2 l Z b K (q + 1) 19 ls st H cN sN = (popI st fun y r => popI r fun x r => if x = y then V2 l Z b K q 22 ls r H cN sN else V2 l Z b K q 24 ls r H cN sN) := by show Wn _ _ _ _ _ _ _ _ _ _ _ _ _ _ _ (q + 1) _ _ _ _ _ _ = _; rw [wn_s (by decide), f2_19]; rfl
theorem f2_22 : at1 method_5_code 22 = some (.iconst (-1)) := by decide +kernel
theorem s2_22 : V2 l Z b K (q + 1) 22 ls st H cN sN = (V2 l Z b K q 23 ls (.int (-1) :: st) H cN sN) := by show Wn _ _ _ _ _ _ _ _ _ _ _ _ _ _ _ (q + 1) _ _ _ _ _ _ = _; rw [wn_s (by decide), f2_22]; rfl
theorem f2_23 : at1 method_5_code 23 = some (.ireturn) := by decide +kernel
theorem s2_23 : V2 l Z b K (q + 1) 23 ls st H cN sN = (popI st fun x r => if cN ≤ 0 ∧ sN ≤ 0 then K (some (.int x)) H else False) := by show Wn _ _ _ _ _ _ _ _ _ _ _ _ _ _ _ (q + 1) _ _ _ _ _ _ = _; rw [wn_s (by decide), f2_23]; rfl
theorem f2_24 : at1 method_5_code 24 = some (.iload_n 3) := by decide +kernel
theorem s2_24 : V2 l Z b K (q + 1) 24 ls st H cN sN = (ldI ls 3 fun v => V2 l Z b K q 25 ls (.int v :: st) H cN sN) := by show Wn _ _ _ _ _ _ _ _ _ _ _ _ _ _ _ (q + 1) _ _ _ _ _ _ = _; rw [wn_s (by decide), f2_24]; rfl
theorem f2_25 : at1 method_5_code 25 = some (.aload_n 0) := by decide +kernel
theorem s2_25 : V2 l Z b K (q + 1) 25 ls st H cN sN = (ldA ls 0 fun v => V2 l Z b K q 26 ls (v :: st) H cN sN) := by show Wn _ _ _ _ _ _ _ _ _ _ _ _ _ _ _ (q + 1) _ _ _ _ _ _ = _; rw [wn_s (by decide), f2_25]; rfl
theorem f2_26 : at1 method_5_code 26 = some (.iconst 0) := by decide +kernel
theorem s2_26 : V2 l Z b K (q + 1) 26 ls st H cN sN = (V2 l Z b K q 27 ls (.int 0 :: st) H cN sN) := by show Wn _ _ _ _ _ _ _ _ _ _ _ _ _ _ _ (q + 1) _ _ _ _ _ _ = _; rw [wn_s (by decide), f2_26]; rfl
theorem f2_27 : at1 method_5_code 27 = some (.iaload) := by decide +kernel
theorem s2_27 : V2 l Z b K (q + 1) 27 ls st H cN sN = (popI st fun j r => popR r fun a r => arr H b.size a fun i ty vs => if ty = .int then idx vs j fun v => V2 l Z b K q 28 ls (v :: r) H cN sN else False) := by show Wn _ _ _ _ _ _ _ _ _ _ _ _ _ _ _ (q + 1) _ _ _ _ _ _ = _; rw [wn_s (by decide), f2_27]; rfl
theorem f2_28 : at1 method_5_code 28 = some (.invokestatic 7) := by decide +kernel
theorem s2_28 : V2 l Z b K (q + 1) 28 ls st H cN sN = (G2 l Z b K 28 ls st H cN sN) := by show Wn _ _ _ _ _ _ _ _ _ _ _ _ _ _ _ (q + 1) _ _ _ _ _ _ = _; rw [wn_s (by decide), f2_28]; rfl
theorem f2_31 : at1 method_5_code 31 = some (.iadd) := by decide +kernel
theorem s2_31 : V2 l Z b K (q + 1) 31 ls st H cN sN = (popI st fun y r => popI r fun x r => V2 l Z b K q 32 ls (.int (x + y) :: r) H cN sN) := by show Wn _ _ _ _ _ _ _ _ _ _ _ _ _ _ _ (q + 1) _ _ _ _ _ _ = _; rw [wn_s (by decide), f2_31]; rfl
theorem f2_32 : at1 method_5_code 32 = some (.istore_n 3) := by decide +kernel
theorem s2_32 : V2 l Z b K (q + 1) 32 ls st H cN sN = (popI st fun v r => sto1 ls 3 (.int v) fun l' => V2 l Z b K q 33 l' r H cN sN) := by show Wn _ _ _ _ _ _ _ _ _ _ _ _ _ _ _ (q + 1) _ _ _ _ _ _ = _; rw [wn_s (by decide), f2_32]; rfl
theorem f2_33 : at1 method_5_code 33 = some (.iload_n 1) := by decide +kernel
theorem s2_33 : V2 l Z b K (q + 1) 33 ls st H cN sN = (ldI ls 1 fun v => V2 l Z b K q 34 ls (.int v :: st) H cN sN) := by show Wn _ _ _ _ _ _ _ _ _ _ _ _ _ _ _ (q + 1) _ _ _ _ _ _ = _; rw [wn_s (by decide), f2_33]; rfl
theorem f2_34 : at1 method_5_code 34 = some (.iconst 1) := by decide +kernel
theorem s2_34 : V2 l Z b K (q + 1) 34 ls st H cN sN = (V2 l Z b K q 35 ls (.int 1 :: st) H cN sN) := by show Wn _ _ _ _ _ _ _ _ _ _ _ _ _ _ _ (q + 1) _ _ _ _ _ _ = _; rw [wn_s (by decide), f2_34]; rfl
theorem f2_35 : at1 method_5_code 35 = some (.if_icmp .le 30) := by decide +kernel
theorem s2_35 : V2 l Z b K (q + 1) 35 ls st H cN sN = (popI st fun y r => popI r fun x r => if y < x then V2 l Z b K q 38 ls r H cN sN else V2 l Z b K q 65 ls r H cN sN) := by show Wn _ _ _ _ _ _ _ _ _ _ _ _ _ _ _ (q + 1) _ _ _ _ _ _ = _; rw [wn_s (by decide), f2_35]; rfl
theorem f2_38 : at1 method_5_code 38 = some (.aload_n 0) := by decide +kernel
theorem s2_38 : V2 l Z b K (q + 1) 38 ls st H cN sN = (ldA ls 0 fun v => V2 l Z b K q 39 ls (v :: st) H cN sN) := by show Wn _ _ _ _ _ _ _ _ _ _ _ _ _ _ _ (q + 1) _ _ _ _ _ _ = _; rw [wn_s (by decide), f2_38]; rfl
theorem f2_39 : at1 method_5_code 39 = some (.iconst 1) := by decide +kernel
theorem s2_39 : V2 l Z b K (q + 1) 39 ls st H cN sN = (V2 l Z b K q 40 ls (.int 1 :: st) H cN sN) := by show Wn _ _ _ _ _ _ _ _ _ _ _ _ _ _ _ (q + 1) _ _ _ _ _ _ = _; rw [wn_s (by decide), f2_39]; rfl
theorem f2_40 : at1 method_5_code 40 = some (.iaload) := by decide +kernel
theorem s2_40 : V2 l Z b K (q + 1) 40 ls st H cN sN = (popI st fun j r => popR r fun a r => arr H b.size a fun i ty vs => if ty = .int then idx vs j fun v => V2 l Z b K q 41 ls (v :: r) H cN sN else False) := by show Wn _ _ _ _ _ _ _ _ _ _ _ _ _ _ _ (q + 1) _ _ _ _ _ _ = _; rw [wn_s (by decide), f2_40]; rfl
theorem f2_41 : at1 method_5_code 41 = some (.iconst 2) := by decide +kernel
theorem s2_41 : V2 l Z b K (q + 1) 41 ls st H cN sN = (V2 l Z b K q 42 ls (.int 2 :: st) H cN sN) := by show Wn _ _ _ _ _ _ _ _ _ _ _ _ _ _ _ (q + 1) _ _ _ _ _ _ = _; rw [wn_s (by decide), f2_41]; rfl
theorem f2_42 : at1 method_5_code 42 = some (.if_icmp .ne 5) := by decide +kernel
theorem s2_42 : V2 l Z b K (q + 1) 42 ls st H cN sN = (popI st fun y r => popI r fun x r => if x = y then V2 l Z b K q 45 ls r H cN sN else V2 l Z b K q 47 ls r H cN sN) := by show Wn _ _ _ _ _ _ _ _ _ _ _ _ _ _ _ (q + 1) _ _ _ _ _ _ = _; rw [wn_s (by decide), f2_42]; rfl
theorem f2_45 : at1 method_5_code 45 = some (.iload_n 3) := by decide +kernel
theorem s2_45 : V2 l Z b K (q + 1) 45 ls st H cN sN = (ldI ls 3 fun v => V2 l Z b K q 46 ls (.int v :: st) H cN sN) := by show Wn _ _ _ _ _ _ _ _ _ _ _ _ _ _ _ (q + 1) _ _ _ _ _ _ = _; rw [wn_s (by decide), f2_45]; rfl
theorem f2_46 : at1 method_5_code 46 = some (.ireturn) := by decide +kernel
theorem s2_46 : V2 l Z b K (q + 1) 46 ls st H cN sN = (popI st fun x r => if cN ≤ 0 ∧ sN ≤ 0 then K (some (.int x)) H else False) := by show Wn _ _ _ _ _ _ _ _ _ _ _ _ _ _ _ (q + 1) _ _ _ _ _ _ = _; rw [wn_s (by decide), f2_46]; rfl
theorem f2_47 : at1 method_5_code 47 = some (.aload_n 0) := by decide +kernel
theorem s2_47 : V2 l Z b K (q + 1) 47 ls st H cN sN = (ldA ls 0 fun v => V2 l Z b K q 48 ls (v :: st) H cN sN) := by show Wn _ _ _ _ _ _ _ _ _ _ _ _ _ _ _ (q + 1) _ _ _ _ _ _ = _; rw [wn_s (by decide), f2_47]; rfl
theorem f2_48 : at1 method_5_code 48 = some (.iconst 1) := by decide +kernel
theorem s2_48 : V2 l Z b K (q + 1) 48 ls st H cN sN = (V2 l Z b K q 49 ls (.int 1 :: st) H cN sN) := by show Wn _ _ _ _ _ _ _ _ _ _ _ _ _ _ _ (q + 1) _ _ _ _ _ _ = _; rw [wn_s (by decide), f2_48]; rfl
theorem f2_49 : at1 method_5_code 49 = some (.iaload) := by decide +kernel
theorem s2_49 : V2 l Z b K (q + 1) 49 ls st H cN sN = (popI st fun j r => popR r fun a r => arr H b.size a fun i ty vs => if ty = .int then idx vs j fun v => V2 l Z b K q 50 ls (v :: r) H cN sN else False) := by show Wn _ _ _ _ _ _ _ _ _ _ _ _ _ _ _ (q + 1) _ _ _ _ _ _ = _; rw [wn_s (by decide), f2_49]; rfl
theorem f2_50 : at1 method_5_code 50 = some (.iconst 3) := by decide +kernel
theorem s2_50 : V2 l Z b K (q + 1) 50 ls st H cN sN = (V2 l Z b K q 51 ls (.int 3 :: st) H cN sN) := by show Wn _ _ _ _ _ _ _ _ _ _ _ _ _ _ _ (q + 1) _ _ _ _ _ _ = _; rw [wn_s (by decide), f2_50]; rfl
theorem f2_51 : at1 method_5_code 51 = some (.if_icmp .ne 5) := by decide +kernel
theorem s2_51 : V2 l Z b K (q + 1) 51 ls st H cN sN = (popI st fun y r => popI r fun x r => if x = y then V2 l Z b K q 54 ls r H cN sN else V2 l Z b K q 56 ls r H cN sN) := by show Wn _ _ _ _ _ _ _ _ _ _ _ _ _ _ _ (q + 1) _ _ _ _ _ _ = _; rw [wn_s (by decide), f2_51]; rfl
theorem f2_54 : at1 method_5_code 54 = some (.iconst (-1)) := by decide +kernel
theorem s2_54 : V2 l Z b K (q + 1) 54 ls st H cN sN = (V2 l Z b K q 55 ls (.int (-1) :: st) H cN sN) := by show Wn _ _ _ _ _ _ _ _ _ _ _ _ _ _ _ (q + 1) _ _ _ _ _ _ = _; rw [wn_s (by decide), f2_54]; rfl
theorem f2_55 : at1 method_5_code 55 = some (.ireturn) := by decide +kernel
theorem s2_55 : V2 l Z b K (q + 1) 55 ls st H cN sN = (popI st fun x r => if cN ≤ 0 ∧ sN ≤ 0 then K (some (.int x)) H else False) := by show Wn _ _ _ _ _ _ _ _ _ _ _ _ _ _ _ (q + 1) _ _ _ _ _ _ = _; rw [wn_s (by decide), f2_55]; rfl
theorem f2_56 : at1 method_5_code 56 = some (.iload_n 3) := by decide +kernel
theorem s2_56 : V2 l Z b K (q + 1) 56 ls st H cN sN = (ldI ls 3 fun v => V2 l Z b K q 57 ls (.int v :: st) H cN sN) := by show Wn _ _ _ _ _ _ _ _ _ _ _ _ _ _ _ (q + 1) _ _ _ _ _ _ = _; rw [wn_s (by decide), f2_56]; rfl
theorem f2_57 : at1 method_5_code 57 = some (.aload_n 0) := by decide +kernel
theorem s2_57 : V2 l Z b K (q + 1) 57 ls st H cN sN = (ldA ls 0 fun v => V2 l Z b K q 58 ls (v :: st) H cN sN) := by show Wn _ _ _ _ _ _ _ _ _ _ _ _ _ _ _ (q + 1) _ _ _ _ _ _ = _; rw [wn_s (by decide), f2_57]; rfl
theorem f2_58 : at1 method_5_code 58 = some (.iconst 1) := by decide +kernel
theorem s2_58 : V2 l Z b K (q + 1) 58 ls st H cN sN = (V2 l Z b K q 59 ls (.int 1 :: st) H cN sN) := by show Wn _ _ _ _ _ _ _ _ _ _ _ _ _ _ _ (q + 1) _ _ _ _ _ _ = _; rw [wn_s (by decide), f2_58]; rfl
theorem f2_59 : at1 method_5_code 59 = some (.iaload) := by decide +kernel
theorem s2_59 : V2 l Z b K (q + 1) 59 ls st H cN sN = (popI st fun j r => popR r fun a r => arr H b.size a fun i ty vs => if ty = .int then idx vs j fun v => V2 l Z b K q 60 ls (v :: r) H cN sN else False) := by show Wn _ _ _ _ _ _ _ _ _ _ _ _ _ _ _ (q + 1) _ _ _ _ _ _ = _; rw [wn_s (by decide), f2_59]; rfl
theorem f2_60 : at1 method_5_code 60 = some (.invokestatic 7) := by decide +kernel
theorem s2_60 : V2 l Z b K (q + 1) 60 ls st H cN sN = (G2 l Z b K 60 ls st H cN sN) := by show Wn _ _ _ _ _ _ _ _ _ _ _ _ _ _ _ (q + 1) _ _ _ _ _ _ = _; rw [wn_s (by decide), f2_60]; rfl
theorem f2_63 : at1 method_5_code 63 = some (.iadd) := by decide +kernel
theorem s2_63 : V2 l Z b K (q + 1) 63 ls st H cN sN = (popI st fun y r => popI r fun x r => V2 l Z b K q 64 ls (.int (x + y) :: r) H cN sN) := by show Wn _ _ _ _ _ _ _ _ _ _ _ _ _ _ _ (q + 1) _ _ _ _ _ _ = _; rw [wn_s (by decide), f2_63]; rfl
theorem f2_64 : at1 method_5_code 64 = some (.istore_n 3) := by decide +kernel
theorem s2_64 : V2 l Z b K (q + 1) 64 ls st H cN sN = (popI st fun v r => sto1 ls 3 (.int v) fun l' => V2 l Z b K q 65 l' r H cN sN) := by show Wn _ _ _ _ _ _ _ _ _ _ _ _ _ _ _ (q + 1) _ _ _ _ _ _ = _; rw [wn_s (by decide), f2_64]; rfl
theorem f2_65 : at1 method_5_code 65 = some (.iload_n 1) := by decide +kernel
theorem s2_65 : V2 l Z b K (q + 1) 65 ls st H cN sN = (ldI ls 1 fun v => V2 l Z b K q 66 ls (.int v :: st) H cN sN) := by show Wn _ _ _ _ _ _ _ _ _ _ _ _ _ _ _ (q + 1) _ _ _ _ _ _ = _; rw [wn_s (by decide), f2_65]; rfl
theorem f2_66 : at1 method_5_code 66 = some (.iconst 2) := by decide +kernel
theorem s2_66 : V2 l Z b K (q + 1) 66 ls st H cN sN = (V2 l Z b K q 67 ls (.int 2 :: st) H cN sN) := by show Wn _ _ _ _ _ _ _ _ _ _ _ _ _ _ _ (q + 1) _ _ _ _ _ _ = _; rw [wn_s (by decide), f2_66]; rfl
theorem f2_67 : at1 method_5_code 67 = some (.if_icmp .le 30) := by decide +kernel
theorem s2_67 : V2 l Z b K (q + 1) 67 ls st H cN sN = (popI st fun y r => popI r fun x r => if y < x then V2 l Z b K q 70 ls r H cN sN else V2 l Z b K q 97 ls r H cN sN) := by show Wn _ _ _ _ _ _ _ _ _ _ _ _ _ _ _ (q + 1) _ _ _ _ _ _ = _; rw [wn_s (by decide), f2_67]; rfl
theorem f2_70 : at1 method_5_code 70 = some (.aload_n 0) := by decide +kernel
theorem s2_70 : V2 l Z b K (q + 1) 70 ls st H cN sN = (ldA ls 0 fun v => V2 l Z b K q 71 ls (v :: st) H cN sN) := by show Wn _ _ _ _ _ _ _ _ _ _ _ _ _ _ _ (q + 1) _ _ _ _ _ _ = _; rw [wn_s (by decide), f2_70]; rfl
theorem f2_71 : at1 method_5_code 71 = some (.iconst 2) := by decide +kernel
theorem s2_71 : V2 l Z b K (q + 1) 71 ls st H cN sN = (V2 l Z b K q 72 ls (.int 2 :: st) H cN sN) := by show Wn _ _ _ _ _ _ _ _ _ _ _ _ _ _ _ (q + 1) _ _ _ _ _ _ = _; rw [wn_s (by decide), f2_71]; rfl
theorem f2_72 : at1 method_5_code 72 = some (.iaload) := by decide +kernel
theorem s2_72 : V2 l Z b K (q + 1) 72 ls st H cN sN = (popI st fun j r => popR r fun a r => arr H b.size a fun i ty vs => if ty = .int then idx vs j fun v => V2 l Z b K q 73 ls (v :: r) H cN sN else False) := by show Wn _ _ _ _ _ _ _ _ _ _ _ _ _ _ _ (q + 1) _ _ _ _ _ _ = _; rw [wn_s (by decide), f2_72]; rfl
theorem f2_73 : at1 method_5_code 73 = some (.iconst 2) := by decide +kernel
theorem s2_73 : V2 l Z b K (q + 1) 73 ls st H cN sN = (V2 l Z b K q 74 ls (.int 2 :: st) H cN sN) := by show Wn _ _ _ _ _ _ _ _ _ _ _ _ _ _ _ (q + 1) _ _ _ _ _ _ = _; rw [wn_s (by decide), f2_73]; rfl
theorem f2_74 : at1 method_5_code 74 = some (.if_icmp .ne 5) := by decide +kernel
theorem s2_74 : V2 l Z b K (q + 1) 74 ls st H cN sN = (popI st fun y r => popI r fun x r => if x = y then V2 l Z b K q 77 ls r H cN sN else V2 l Z b K q 79 ls r H cN sN) := by show Wn _ _ _ _ _ _ _ _ _ _ _ _ _ _ _ (q + 1) _ _ _ _ _ _ = _; rw [wn_s (by decide), f2_74]; rfl
theorem f2_77 : at1 method_5_code 77 = some (.iload_n 3) := by decide +kernel
theorem s2_77 : V2 l Z b K (q + 1) 77 ls st H cN sN = (ldI ls 3 fun v => V2 l Z b K q 78 ls (.int v :: st) H cN sN) := by show Wn _ _ _ _ _ _ _ _ _ _ _ _ _ _ _ (q + 1) _ _ _ _ _ _ = _; rw [wn_s (by decide), f2_77]; rfl
theorem f2_78 : at1 method_5_code 78 = some (.ireturn) := by decide +kernel
theorem s2_78 : V2 l Z b K (q + 1) 78 ls st H cN sN = (popI st fun x r => if cN ≤ 0 ∧ sN ≤ 0 then K (some (.int x)) H else False) := by show Wn _ _ _ _ _ _ _ _ _ _ _ _ _ _ _ (q + 1) _ _ _ _ _ _ = _; rw [wn_s (by decide), f2_78]; rfl
theorem f2_79 : at1 method_5_code 79 = some (.aload_n 0) := by decide +kernel
theorem s2_79 : V2 l Z b K (q + 1) 79 ls st H cN sN = (ldA ls 0 fun v => V2 l Z b K q 80 ls (v :: st) H cN sN) := by show Wn _ _ _ _ _ _ _ _ _ _ _ _ _ _ _ (q + 1) _ _ _ _ _ _ = _; rw [wn_s (by decide), f2_79]; rfl
theorem f2_80 : at1 method_5_code 80 = some (.iconst 2) := by decide +kernel
theorem s2_80 : V2 l Z b K (q + 1) 80 ls st H cN sN = (V2 l Z b K q 81 ls (.int 2 :: st) H cN sN) := by show Wn _ _ _ _ _ _ _ _ _ _ _ _ _ _ _ (q + 1) _ _ _ _ _ _ = _; rw [wn_s (by decide), f2_80]; rfl
theorem f2_81 : at1 method_5_code 81 = some (.iaload) := by decide +kernel
theorem s2_81 : V2 l Z b K (q + 1) 81 ls st H cN sN = (popI st fun j r => popR r fun a r => arr H b.size a fun i ty vs => if ty = .int then idx vs j fun v => V2 l Z b K q 82 ls (v :: r) H cN sN else False) := by show Wn _ _ _ _ _ _ _ _ _ _ _ _ _ _ _ (q + 1) _ _ _ _ _ _ = _; rw [wn_s (by decide), f2_81]; rfl
theorem f2_82 : at1 method_5_code 82 = some (.iconst 3) := by decide +kernel
theorem s2_82 : V2 l Z b K (q + 1) 82 ls st H cN sN = (V2 l Z b K q 83 ls (.int 3 :: st) H cN sN) := by show Wn _ _ _ _ _ _ _ _ _ _ _ _ _ _ _ (q + 1) _ _ _ _ _ _ = _; rw [wn_s (by decide), f2_82]; rfl
theorem f2_83 : at1 method_5_code 83 = some (.if_icmp .ne 5) := by decide +kernel
theorem s2_83 : V2 l Z b K (q + 1) 83 ls st H cN sN = (popI st fun y r => popI r fun x r => if x = y then V2 l Z b K q 86 ls r H cN sN else V2 l Z b K q 88 ls r H cN sN) := by show Wn _ _ _ _ _ _ _ _ _ _ _ _ _ _ _ (q + 1) _ _ _ _ _ _ = _; rw [wn_s (by decide), f2_83]; rfl
theorem f2_86 : at1 method_5_code 86 = some (.iconst (-1)) := by decide +kernel
theorem s2_86 : V2 l Z b K (q + 1) 86 ls st H cN sN = (V2 l Z b K q 87 ls (.int (-1) :: st) H cN sN) := by show Wn _ _ _ _ _ _ _ _ _ _ _ _ _ _ _ (q + 1) _ _ _ _ _ _ = _; rw [wn_s (by decide), f2_86]; rfl
theorem f2_87 : at1 method_5_code 87 = some (.ireturn) := by decide +kernel
theorem s2_87 : V2 l Z b K (q + 1) 87 ls st H cN sN = (popI st fun x r => if cN ≤ 0 ∧ sN ≤ 0 then K (some (.int x)) H else False) := by show Wn _ _ _ _ _ _ _ _ _ _ _ _ _ _ _ (q + 1) _ _ _ _ _ _ = _; rw [wn_s (by decide), f2_87]; rfl
theorem f2_88 : at1 method_5_code 88 = some (.iload_n 3) := by decide +kernel
theorem s2_88 : V2 l Z b K (q + 1) 88 ls st H cN sN = (ldI ls 3 fun v => V2 l Z b K q 89 ls (.int v :: st) H cN sN) := by show Wn _ _ _ _ _ _ _ _ _ _ _ _ _ _ _ (q + 1) _ _ _ _ _ _ = _; rw [wn_s (by decide), f2_88]; rfl
theorem f2_89 : at1 method_5_code 89 = some (.aload_n 0) := by decide +kernel
theorem s2_89 : V2 l Z b K (q + 1) 89 ls st H cN sN = (ldA ls 0 fun v => V2 l Z b K q 90 ls (v :: st) H cN sN) := by show Wn _ _ _ _ _ _ _ _ _ _ _ _ _ _ _ (q + 1) _ _ _ _ _ _ = _; rw [wn_s (by decide), f2_89]; rfl
theorem f2_90 : at1 method_5_code 90 = some (.iconst 2) := by decide +kernel
theorem s2_90 : V2 l Z b K (q + 1) 90 ls st H cN sN = (V2 l Z b K q 91 ls (.int 2 :: st) H cN sN) := by show Wn _ _ _ _ _ _ _ _ _ _ _ _ _ _ _ (q + 1) _ _ _ _ _ _ = _; rw [wn_s (by decide), f2_90]; rfl
theorem f2_91 : at1 method_5_code 91 = some (.iaload) := by decide +kernel
theorem s2_91 : V2 l Z b K (q + 1) 91 ls st H cN sN = (popI st fun j r => popR r fun a r => arr H b.size a fun i ty vs => if ty = .int then idx vs j fun v => V2 l Z b K q 92 ls (v :: r) H cN sN else False) := by show Wn _ _ _ _ _ _ _ _ _ _ _ _ _ _ _ (q + 1) _ _ _ _ _ _ = _; rw [wn_s (by decide), f2_91]; rfl
theorem f2_92 : at1 method_5_code 92 = some (.invokestatic 7) := by decide +kernel
theorem s2_92 : V2 l Z b K (q + 1) 92 ls st H cN sN = (G2 l Z b K 92 ls st H cN sN) := by show Wn _ _ _ _ _ _ _ _ _ _ _ _ _ _ _ (q + 1) _ _ _ _ _ _ = _; rw [wn_s (by decide), f2_92]; rfl
theorem f2_95 : at1 method_5_code 95 = some (.iadd) := by decide +kernel
theorem s2_95 : V2 l Z b K (q + 1) 95 ls st H cN sN = (popI st fun y r => popI r fun x r => V2 l Z b K q 96 ls (.int (x + y) :: r) H cN sN) := by show Wn _ _ _ _ _ _ _ _ _ _ _ _ _ _ _ (q + 1) _ _ _ _ _ _ = _; rw [wn_s (by decide), f2_95]; rfl
theorem f2_96 : at1 method_5_code 96 = some (.istore_n 3) := by decide +kernel
theorem s2_96 : V2 l Z b K (q + 1) 96 ls st H cN sN = (popI st fun v r => sto1 ls 3 (.int v) fun l' => V2 l Z b K q 97 l' r H cN sN) := by show Wn _ _ _ _ _ _ _ _ _ _ _ _ _ _ _ (q + 1) _ _ _ _ _ _ = _; rw [wn_s (by decide), f2_96]; rfl
theorem f2_97 : at1 method_5_code 97 = some (.iload_n 1) := by decide +kernel
theorem s2_97 : V2 l Z b K (q + 1) 97 ls st H cN sN = (ldI ls 1 fun v => V2 l Z b K q 98 ls (.int v :: st) H cN sN) := by show Wn _ _ _ _ _ _ _ _ _ _ _ _ _ _ _ (q + 1) _ _ _ _ _ _ = _; rw [wn_s (by decide), f2_97]; rfl
theorem f2_98 : at1 method_5_code 98 = some (.iconst 3) := by decide +kernel
theorem s2_98 : V2 l Z b K (q + 1) 98 ls st H cN sN = (V2 l Z b K q 99 ls (.int 3 :: st) H cN sN) := by show Wn _ _ _ _ _ _ _ _ _ _ _ _ _ _ _ (q + 1) _ _ _ _ _ _ = _; rw [wn_s (by decide), f2_98]; rfl
theorem f2_99 : at1 method_5_code 99 = some (.if_icmp .le 21) := by decide +kernel
theorem s2_99 : V2 l Z b K (q + 1) 99 ls st H cN sN = (popI st fun y r => popI r fun x r => if y < x then V2 l Z b K q 102 ls r H cN sN else V2 l Z b K q 120 ls r H cN sN) := by show Wn _ _ _ _ _ _ _ _ _ _ _ _ _ _ _ (q + 1) _ _ _ _ _ _ = _; rw [wn_s (by decide), f2_99]; rfl
theorem f2_102 : at1 method_5_code 102 = some (.aload_n 0) := by decide +kernel
theorem s2_102 : V2 l Z b K (q + 1) 102 ls st H cN sN = (ldA ls 0 fun v => V2 l Z b K q 103 ls (v :: st) H cN sN) := by show Wn _ _ _ _ _ _ _ _ _ _ _ _ _ _ _ (q + 1) _ _ _ _ _ _ = _; rw [wn_s (by decide), f2_102]; rfl
theorem f2_103 : at1 method_5_code 103 = some (.iconst 3) := by decide +kernel
theorem s2_103 : V2 l Z b K (q + 1) 103 ls st H cN sN = (V2 l Z b K q 104 ls (.int 3 :: st) H cN sN) := by show Wn _ _ _ _ _ _ _ _ _ _ _ _ _ _ _ (q + 1) _ _ _ _ _ _ = _; rw [wn_s (by decide), f2_103]; rfl
theorem f2_104 : at1 method_5_code 104 = some (.iaload) := by decide +kernel
theorem s2_104 : V2 l Z b K (q + 1) 104 ls st H cN sN = (popI st fun j r => popR r fun a r => arr H b.size a fun i ty vs => if ty = .int then idx vs j fun v => V2 l Z b K q 105 ls (v :: r) H cN sN else False) := by show Wn _ _ _ _ _ _ _ _ _ _ _ _ _ _ _ (q + 1) _ _ _ _ _ _ = _; rw [wn_s (by decide), f2_104]; rfl
theorem f2_105 : at1 method_5_code 105 = some (.iconst 2) := by decide +kernel
theorem s2_105 : V2 l Z b K (q + 1) 105 ls st H cN sN = (V2 l Z b K q 106 ls (.int 2 :: st) H cN sN) := by show Wn _ _ _ _ _ _ _ _ _ _ _ _ _ _ _ (q + 1) _ _ _ _ _ _ = _; rw [wn_s (by decide), f2_105]; rfl
theorem f2_106 : at1 method_5_code 106 = some (.if_icmp .ne 5) := by decide +kernel
theorem s2_106 : V2 l Z b K (q + 1) 106 ls st H cN sN = (popI st fun y r => popI r fun x r => if x = y then V2 l Z b K q 109 ls r H cN sN else V2 l Z b K q 111 ls r H cN sN) := by show Wn _ _ _ _ _ _ _ _ _ _ _ _ _ _ _ (q + 1) _ _ _ _ _ _ = _; rw [wn_s (by decide), f2_106]; rfl
theorem f2_109 : at1 method_5_code 109 = some (.iload_n 3) := by decide +kernel
theorem s2_109 : V2 l Z b K (q + 1) 109 ls st H cN sN = (ldI ls 3 fun v => V2 l Z b K q 110 ls (.int v :: st) H cN sN) := by show Wn _ _ _ _ _ _ _ _ _ _ _ _ _ _ _ (q + 1) _ _ _ _ _ _ = _; rw [wn_s (by decide), f2_109]; rfl
theorem f2_110 : at1 method_5_code 110 = some (.ireturn) := by decide +kernel
theorem s2_110 : V2 l Z b K (q + 1) 110 ls st H cN sN = (popI st fun x r => if cN ≤ 0 ∧ sN ≤ 0 then K (some (.int x)) H else False) := by show Wn _ _ _ _ _ _ _ _ _ _ _ _ _ _ _ (q + 1) _ _ _ _ _ _ = _; rw [wn_s (by decide), f2_110]; rfl
theorem f2_111 : at1 method_5_code 111 = some (.aload_n 0) := by decide +kernel
theorem s2_111 : V2 l Z b K (q + 1) 111 ls st H cN sN = (ldA ls 0 fun v => V2 l Z b K q 112 ls (v :: st) H cN sN) := by show Wn _ _ _ _ _ _ _ _ _ _ _ _ _ _ _ (q + 1) _ _ _ _ _ _ = _; rw [wn_s (by decide), f2_111]; rfl
theorem f2_112 : at1 method_5_code 112 = some (.iconst 3) := by decide +kernel
theorem s2_112 : V2 l Z b K (q + 1) 112 ls st H cN sN = (V2 l Z b K q 113 ls (.int 3 :: st) H cN sN) := by show Wn _ _ _ _ _ _ _ _ _ _ _ _ _ _ _ (q + 1) _ _ _ _ _ _ = _; rw [wn_s (by decide), f2_112]; rfl
theorem f2_113 : at1 method_5_code 113 = some (.iaload) := by decide +kernel
theorem s2_113 : V2 l Z b K (q + 1) 113 ls st H cN sN = (popI st fun j r => popR r fun a r => arr H b.size a fun i ty vs => if ty = .int then idx vs j fun v => V2 l Z b K q 114 ls (v :: r) H cN sN else False) := by show Wn _ _ _ _ _ _ _ _ _ _ _ _ _ _ _ (q + 1) _ _ _ _ _ _ = _; rw [wn_s (by decide), f2_113]; rfl
theorem f2_114 : at1 method_5_code 114 = some (.iconst 3) := by decide +kernel
theorem s2_114 : V2 l Z b K (q + 1) 114 ls st H cN sN = (V2 l Z b K q 115 ls (.int 3 :: st) H cN sN) := by show Wn _ _ _ _ _ _ _ _ _ _ _ _ _ _ _ (q + 1) _ _ _ _ _ _ = _; rw [wn_s (by decide), f2_114]; rfl
theorem f2_115 : at1 method_5_code 115 = some (.if_icmp .ne 5) := by decide +kernel
theorem s2_115 : V2 l Z b K (q + 1) 115 ls st H cN sN = (popI st fun y r => popI r fun x r => if x = y then V2 l Z b K q 118 ls r H cN sN else V2 l Z b K q 120 ls r H cN sN) := by show Wn _ _ _ _ _ _ _ _ _ _ _ _ _ _ _ (q + 1) _ _ _ _ _ _ = _; rw [wn_s (by decide), f2_115]; rfl
theorem f2_118 : at1 method_5_code 118 = some (.iconst (-1)) := by decide +kernel
theorem s2_118 : V2 l Z b K (q + 1) 118 ls st H cN sN = (V2 l Z b K q 119 ls (.int (-1) :: st) H cN sN) := by show Wn _ _ _ _ _ _ _ _ _ _ _ _ _ _ _ (q + 1) _ _ _ _ _ _ = _; rw [wn_s (by decide), f2_118]; rfl
theorem f2_119 : at1 method_5_code 119 = some (.ireturn) := by decide +kernel
theorem s2_119 : V2 l Z b K (q + 1) 119 ls st H cN sN = (popI st fun x r => if cN ≤ 0 ∧ sN ≤ 0 then K (some (.int x)) H else False) := by show Wn _ _ _ _ _ _ _ _ _ _ _ _ _ _ _ (q + 1) _ _ _ _ _ _ = _; rw [wn_s (by decide), f2_119]; rfl
theorem f2_120 : at1 method_5_code 120 = some (.iconst (-1)) := by decide +kernel
theorem s2_120 : V2 l Z b K (q + 1) 120 ls st H cN sN = (V2 l Z b K q 121 ls (.int (-1) :: st) H cN sN) := by show Wn _ _ _ _ _ _ _ _ _ _ _ _ _ _ _ (q + 1) _ _ _ _ _ _ = _; rw [wn_s (by decide), f2_120]; rfl
theorem f2_121 : at1 method_5_code 121 = some (.ireturn) := by decide +kernel
theorem s2_121 : V2 l Z b K (q + 1) 121 ls st H cN sN = (popI st fun x r => if cN ≤ 0 ∧ sN ≤ 0 then K (some (.int x)) H else False) := by show Wn _ _ _ _ _ _ _ _ _ _ _ _ _ _ _ (q + 1) _ _ _ _ _ _ = _; rw [wn_s (by decide), f2_121]; rfl
theorem S2 : type_of% @z2 ∧ type_of% @s2_0 ∧ type_of% @s2_1 ∧ type_of% @s2_2 ∧ type_of% @s2_3 ∧ type_of% @s2_6 ∧ type_of% @s2_7 ∧ type_of% @s2_8 ∧ type_of% @s2_9 ∧ type_of% @s2_10 ∧ type_of% @s2_13 ∧ type_of% @s2_14 ∧ type_of% @s2_15 ∧ type_of% @s2_16 ∧ type_of% @s2_17 ∧ type_of% @s2_18 ∧ type_of% @s2_19 ∧ type_of% @s2_22 ∧ type_of% @s2_23 ∧ type_of% @s2_24 ∧ type_of% @s2_25 ∧ type_of% @s2_26 ∧ type_of% @s2_27 ∧ type_of% @s2_28 ∧ type_of% @s2_31 ∧ type_of% @s2_32 ∧ type_of% @s2_33 ∧ type_of% @s2_34 ∧ type_of% @s2_35 ∧ type_of% @s2_38 ∧ type_of% @s2_39 ∧ type_of% @s2_40 ∧ type_of% @s2_41 ∧ type_of% @s2_42 ∧ type_of% @s2_45 ∧ type_of% @s2_46 ∧ type_of% @s2_47 ∧ type_of% @s2_48 ∧ type_of% @s2_49 ∧ type_of% @s2_50 ∧ type_of% @s2_51 ∧ type_of% @s2_54 ∧ type_of% @s2_55 ∧ type_of% @s2_56 ∧ type_of% @s2_57 ∧ type_of% @s2_58 ∧ type_of% @s2_59 ∧ type_of% @s2_60 ∧ type_of% @s2_63 ∧ type_of% @s2_64 ∧ type_of% @s2_65 ∧ type_of% @s2_66 ∧ type_of% @s2_67 ∧ type_of% @s2_70 ∧ type_of% @s2_71 ∧ type_of% @s2_72 ∧ type_of% @s2_73 ∧ type_of% @s2_74 ∧ type_of% @s2_77 ∧ type_of% @s2_78 ∧ type_of% @s2_79 ∧ type_of% @s2_80 ∧ type_of% @s2_81 ∧ type_of% @s2_82 ∧ type_of% @s2_83 ∧ type_of% @s2_86 ∧ type_of% @s2_87 ∧ type_of% @s2_88 ∧ type_of% @s2_89 ∧ type_of% @s2_90 ∧ type_of% @s2_91 ∧ type_of% @s2_92 ∧ type_of% @s2_95 ∧ type_of% @s2_96 ∧ type_of% @s2_97 ∧ type_of% @s2_98 ∧ type_of% @s2_99 ∧ type_of% @s2_102 ∧ type_of% @s2_103 ∧ type_of% @s2_104 ∧ type_of% @s2_105 ∧ type_of% @s2_106 ∧ type_of% @s2_109 ∧ type_of% @s2_110 ∧ type_of% @s2_111 ∧ type_of% @s2_112 ∧ type_of% @s2_113 ∧ type_of% @s2_114 ∧ type_of% @s2_115 ∧ type_of% @s2_118 ∧ type_of% @s2_119 ∧ type_of% @s2_120 ∧ type_of% @s2_121 := ⟨@z2, @s2_0, @s2_1, @s2_2, @s2_3, @s2_6, @s2_7, @s2_8, @s2_9, @s2_10, @s2_13, @s2_14, @s2_15, @s2_16, @s2_17, @s2_18, @s2_19, @s2_22, @s2_23, @s2_24, @s2_25, @s2_26, @s2_27, @s2_28, @s2_31, @s2_32, @s2_33, @s2_34, @s2_35, @s2_38, @s2_39, @s2_40, @s2_41, @s2_42, @s2_45, @s2_46, @s2_47, @s2_48, @s2_49, @s2_50, @s2_51, @s2_54, @s2_55, @s2_56, @s2_57, @s2_58, @s2_59, @s2_60, @s2_63, @s2_64, @s2_65, @s2_66, @s2_67, @s2_70, @s2_71, @s2_72, @s2_73, @s2_74, @s2_77, @s2_78, @s2_79, @s2_80, @s2_81, @s2_82, @s2_83, @s2_86, @s2_87, @s2_88, @s2_89, @s2_90, @s2_91, @s2_92, @s2_95, @s2_96, @s2_97, @s2_98, @s2_99, @s2_102, @s2_103, @s2_104, @s2_105, @s2_106, @s2_109, @s2_110, @s2_111, @s2_112, @s2_113, @s2_114, @s2_115, @s2_118, @s2_119, @s2_120, @s2_121⟩
theorem ef2 (m : MethodId) (x0 : Nat) (x1 : Int32) (x2 : Int32) : entryFrame m [.ref x0, .int x1, .int x2].toArray 4 = mkF m 0 [.val (.ref x0), .val (.int x1), .val (.int x2), .unset].toArray [] := by first | (simp [entryFrame, mkF, argsToLocals, Value.category, maxLocals, List.replicate]; done) | rfl
theorem pn2 : plainFor y2 = true := by first | decide +kernel | exact plainFor_of_name (by simp [y2, plainName, overriddenIn])
theorem pd2 : parseMethodDescriptor "([III)I" = some ⟨[(.array .int), .int, .int], some .int⟩ := by decide +kernel
theorem c2 (x0 : Nat) (x1 : Int32) (x2 : Int32) (g : G2 l Z b K 0 [.val (.ref x0), .val (.int x1), .val (.int x2), .unset] [] H 0 0) : Con tables_1 l Z b y2 method_5_code 4 (some .int) R2 [.ref x0, .int x1, .int x2] H K := G.con pn2 (fun m => ef2 m x0 x1 x2) g
end Body2
def R3 : Room := { frames := 0, cells := 0, slots := 0, locals := 0 }
def y3 : MethodName := ⟨"com/example/rowkey/rowkey/EndedPartsEndOfPinLaw", "size", "(I)I"⟩
def G3 (l : Launch) (Z : State) (b : Heap) (K : Option Value → List Cel → Prop) : Cont := G method_3_code "com/example/rowkey/rowkey/EndedPartsEndOfPinLaw" "size" 1 (some .int) R3 tables_1 l Z b 0 0 K
def V3 (l : Launch) (Z : State) (b : Heap) (K : Option Value → List Cel → Prop) : Nat → Cont := Wn [] method_3_code [] [] [] [] [] [] (some .int) R3 b.size 0 0 K (G3 l Z b K)
section Body3
variable {l : Launch} {Z : State} {b : Heap} {K : Option Value → List Cel → Prop} {q : Nat} {ls : List Slot} {st : List Value} {H : List Cel} {cN sN : Nat}
theorem r3 (q : Nat) {pc : Nat} (h : V3 l Z b K q pc ls st H cN sN) : G3 l Z b K pc ls st H cN sN := G.run q (by intro x hx; cases hx) (by intro x hx; cases hx) (by intro x hx; cases hx) (by intro x hx; cases hx) (by intro x hx; cases hx) (by intro x hx; cases hx) h
theorem z3 {pc : Nat} : V3 l Z b K 0 pc ls st H cN sN = G3 l Z b K pc ls st H cN sN := propext Iff.rfl
theorem f3_0 : at1 method_3_code 0 = some (.iload_n 0) := by decide +kernel
theorem s3_0 : V3 l Z b K (q + 1) 0 ls st H cN sN = (ldI ls 0 fun v => V3 l Z b K q 1 ls (.int v :: st) H cN sN) := by show Wn _ _ _ _ _ _ _ _ _ _ _ _ _ _ _ (q + 1) _ _ _ _ _ _ = _; rw [wn_s (by decide), f3_0]; rfl
theorem f3_1 : at1 method_3_code 1 = some (.ifCond .ne 7) := by decide +kernel
theorem s3_1 : V3 l Z b K (q + 1) 1 ls st H cN sN = (popI st fun x r => if x = 0 then V3 l Z b K q 4 ls r H cN sN else V3 l Z b K q 8 ls r H cN sN) := by show Wn _ _ _ _ _ _ _ _ _ _ _ _ _ _ _ (q + 1) _ _ _ _ _ _ = _; rw [wn_s (by decide), f3_1]; rfl
theorem f3_4 : at1 method_3_code 4 = some (.iconst 1) := by decide +kernel
theorem s3_4 : V3 l Z b K (q + 1) 4 ls st H cN sN = (V3 l Z b K q 5 ls (.int 1 :: st) H cN sN) := by show Wn _ _ _ _ _ _ _ _ _ _ _ _ _ _ _ (q + 1) _ _ _ _ _ _ = _; rw [wn_s (by decide), f3_4]; rfl
theorem f3_5 : at1 method_3_code 5 = some (.goto 4) := by decide +kernel
theorem s3_5 : V3 l Z b K (q + 1) 5 ls st H cN sN = (V3 l Z b K q 9 ls st H cN sN) := by show Wn _ _ _ _ _ _ _ _ _ _ _ _ _ _ _ (q + 1) _ _ _ _ _ _ = _; rw [wn_s (by decide), f3_5]; rfl
theorem f3_8 : at1 method_3_code 8 = some (.iconst 2) := by decide +kernel
theorem s3_8 : V3 l Z b K (q + 1) 8 ls st H cN sN = (V3 l Z b K q 9 ls (.int 2 :: st) H cN sN) := by show Wn _ _ _ _ _ _ _ _ _ _ _ _ _ _ _ (q + 1) _ _ _ _ _ _ = _; rw [wn_s (by decide), f3_8]; rfl
theorem f3_9 : at1 method_3_code 9 = some (.ireturn) := by decide +kernel
theorem s3_9 : V3 l Z b K (q + 1) 9 ls st H cN sN = (popI st fun x r => if cN ≤ 0 ∧ sN ≤ 0 then K (some (.int x)) H else False) := by show Wn _ _ _ _ _ _ _ _ _ _ _ _ _ _ _ (q + 1) _ _ _ _ _ _ = _; rw [wn_s (by decide), f3_9]; rfl
theorem S3 : type_of% @z3 ∧ type_of% @s3_0 ∧ type_of% @s3_1 ∧ type_of% @s3_4 ∧ type_of% @s3_5 ∧ type_of% @s3_8 ∧ type_of% @s3_9 := ⟨@z3, @s3_0, @s3_1, @s3_4, @s3_5, @s3_8, @s3_9⟩
theorem ef3 (m : MethodId) (x0 : Int32) : entryFrame m [.int x0].toArray 1 = mkF m 0 [.val (.int x0)].toArray [] := by first | (simp [entryFrame, mkF, argsToLocals, Value.category, maxLocals, List.replicate]; done) | rfl
theorem pn3 : plainFor y3 = true := by first | decide +kernel | exact plainFor_of_name (by simp [y3, plainName, overriddenIn])
theorem pd3 : parseMethodDescriptor "(I)I" = some ⟨[.int], some .int⟩ := by decide +kernel
theorem c3 (x0 : Int32) (g : G3 l Z b K 0 [.val (.int x0)] [] H 0 0) : Con tables_1 l Z b y3 method_3_code 1 (some .int) R3 [.int x0] H K := G.con pn3 (fun m => ef3 m x0) g
end Body3
def R4 : Room := { frames := 0, cells := 0, slots := 0, locals := 0 }
def y4 : MethodName := ⟨"com/example/rowkey/rowkey/EndedPartsEndOfPinLaw", "put", "([BIIB)I"⟩
def G4 (l : Launch) (Z : State) (b : Heap) (K : Option Value → List Cel → Prop) : Cont := G method_4_code "com/example/rowkey/rowkey/EndedPartsEndOfPinLaw" "put" 4 (some .int) R4 tables_1 l Z b 0 0 K
def V4 (l : Launch) (Z : State) (b : Heap) (K : Option Value → List Cel → Prop) : Nat → Cont := Wn [] method_4_code [] [] [] [] [] [] (some .int) R4 b.size 0 0 K (G4 l Z b K)
section Body4
variable {l : Launch} {Z : State} {b : Heap} {K : Option Value → List Cel → Prop} {q : Nat} {ls : List Slot} {st : List Value} {H : List Cel} {cN sN : Nat}
theorem r4 (q : Nat) {pc : Nat} (h : V4 l Z b K q pc ls st H cN sN) : G4 l Z b K pc ls st H cN sN := G.run q (by intro x hx; cases hx) (by intro x hx; cases hx) (by intro x hx; cases hx) (by intro x hx; cases hx) (by intro x hx; cases hx) (by intro x hx; cases hx) h
theorem z4 {pc : Nat} : V4 l Z b K 0 pc ls st H cN sN = G4 l Z b K pc ls st H cN sN := propext Iff.rfl
theorem f4_0 : at1 method_4_code 0 = some (.iload_n 2) := by decide +kernel
theorem s4_0 : V4 l Z b K (q + 1) 0 ls st H cN sN = (ldI ls 2 fun v => V4 l Z b K q 1 ls (.int v :: st) H cN sN) := by show Wn _ _ _ _ _ _ _ _ _ _ _ _ _ _ _ (q + 1) _ _ _ _ _ _ = _; rw [wn_s (by decide), f4_0]; rfl
theorem f4_1 : at1 method_4_code 1 = some (.ifCond .ne 20) := by decide +kernel
theorem s4_1 : V4 l Z b K (q + 1) 1 ls st H cN sN = (popI st fun x r => if x = 0 then V4 l Z b K q 4 ls r H cN sN else V4 l Z b K q 21 ls r H cN sN) := by show Wn _ _ _ _ _ _ _ _ _ _ _ _ _ _ _ (q + 1) _ _ _ _ _ _ = _; rw [wn_s (by decide), f4_1]; rfl
theorem f4_4 : at1 method_4_code 4 = some (.aload_n 0) := by decide +kernel
theorem s4_4 : V4 l Z b K (q + 1) 4 ls st H cN sN = (ldA ls 0 fun v => V4 l Z b K q 5 ls (v :: st) H cN sN) := by show Wn _ _ _ _ _ _ _ _ _ _ _ _ _ _ _ (q + 1) _ _ _ _ _ _ = _; rw [wn_s (by decide), f4_4]; rfl
theorem f4_5 : at1 method_4_code 5 = some (.iload_n 1) := by decide +kernel
theorem s4_5 : V4 l Z b K (q + 1) 5 ls st H cN sN = (ldI ls 1 fun v => V4 l Z b K q 6 ls (.int v :: st) H cN sN) := by show Wn _ _ _ _ _ _ _ _ _ _ _ _ _ _ _ (q + 1) _ _ _ _ _ _ = _; rw [wn_s (by decide), f4_5]; rfl
theorem f4_6 : at1 method_4_code 6 = some (.iload_n 3) := by decide +kernel
theorem s4_6 : V4 l Z b K (q + 1) 6 ls st H cN sN = (ldI ls 3 fun v => V4 l Z b K q 7 ls (.int v :: st) H cN sN) := by show Wn _ _ _ _ _ _ _ _ _ _ _ _ _ _ _ (q + 1) _ _ _ _ _ _ = _; rw [wn_s (by decide), f4_6]; rfl
theorem f4_7 : at1 method_4_code 7 = some (.ifCond .ne 8) := by decide +kernel
theorem s4_7 : V4 l Z b K (q + 1) 7 ls st H cN sN = (popI st fun x r => if x = 0 then V4 l Z b K q 10 ls r H cN sN else V4 l Z b K q 15 ls r H cN sN) := by show Wn _ _ _ _ _ _ _ _ _ _ _ _ _ _ _ (q + 1) _ _ _ _ _ _ = _; rw [wn_s (by decide), f4_7]; rfl
theorem f4_10 : at1 method_4_code 10 = some (.bipush (-128)) := by decide +kernel
theorem s4_10 : V4 l Z b K (q + 1) 10 ls st H cN sN = (V4 l Z b K q 12 ls (.int (-128) :: st) H cN sN) := by show Wn _ _ _ _ _ _ _ _ _ _ _ _ _ _ _ (q + 1) _ _ _ _ _ _ = _; rw [wn_s (by decide), f4_10]; rfl
theorem f4_12 : at1 method_4_code 12 = some (.goto 4) := by decide +kernel
theorem s4_12 : V4 l Z b K (q + 1) 12 ls st H cN sN = (V4 l Z b K q 16 ls st H cN sN) := by show Wn _ _ _ _ _ _ _ _ _ _ _ _ _ _ _ (q + 1) _ _ _ _ _ _ = _; rw [wn_s (by decide), f4_12]; rfl
theorem f4_15 : at1 method_4_code 15 = some (.iload_n 3) := by decide +kernel
theorem s4_15 : V4 l Z b K (q + 1) 15 ls st H cN sN = (ldI ls 3 fun v => V4 l Z b K q 16 ls (.int v :: st) H cN sN) := by show Wn _ _ _ _ _ _ _ _ _ _ _ _ _ _ _ (q + 1) _ _ _ _ _ _ = _; rw [wn_s (by decide), f4_15]; rfl
theorem f4_16 : at1 method_4_code 16 = some (.bastore) := by decide +kernel
theorem s4_16 : V4 l Z b K (q + 1) 16 ls st H cN sN = (popI st fun x r => popI r fun j r => popR r fun a r => arr H b.size a fun i ty vs => if ty = .byte then idx vs j fun _ => setN vs j.toNatClampNeg (.int (nar .byte x)) fun vs' => setH H i (.inl (.byte, vs')) fun H' => V4 l Z b K q 17 ls r H' cN sN else False) := by show Wn _ _ _ _ _ _ _ _ _ _ _ _ _ _ _ (q + 1) _ _ _ _ _ _ = _; rw [wn_s (by decide), f4_16]; rfl
theorem f4_17 : at1 method_4_code 17 = some (.iload_n 1) := by decide +kernel
theorem s4_17 : V4 l Z b K (q + 1) 17 ls st H cN sN = (ldI ls 1 fun v => V4 l Z b K q 18 ls (.int v :: st) H cN sN) := by show Wn _ _ _ _ _ _ _ _ _ _ _ _ _ _ _ (q + 1) _ _ _ _ _ _ = _; rw [wn_s (by decide), f4_17]; rfl
theorem f4_18 : at1 method_4_code 18 = some (.iconst 1) := by decide +kernel
theorem s4_18 : V4 l Z b K (q + 1) 18 ls st H cN sN = (V4 l Z b K q 19 ls (.int 1 :: st) H cN sN) := by show Wn _ _ _ _ _ _ _ _ _ _ _ _ _ _ _ (q + 1) _ _ _ _ _ _ = _; rw [wn_s (by decide), f4_18]; rfl
theorem f4_19 : at1 method_4_code 19 = some (.iadd) := by decide +kernel
theorem s4_19 : V4 l Z b K (q + 1) 19 ls st H cN sN = (popI st fun y r => popI r fun x r => V4 l Z b K q 20 ls (.int (x + y) :: r) H cN sN) := by show Wn _ _ _ _ _ _ _ _ _ _ _ _ _ _ _ (q + 1) _ _ _ _ _ _ = _; rw [wn_s (by decide), f4_19]; rfl
theorem f4_20 : at1 method_4_code 20 = some (.ireturn) := by decide +kernel
theorem s4_20 : V4 l Z b K (q + 1) 20 ls st H cN sN = (popI st fun x r => if cN ≤ 0 ∧ sN ≤ 0 then K (some (.int x)) H else False) := by show Wn _ _ _ _ _ _ _ _ _ _ _ _ _ _ _ (q + 1) _ _ _ _ _ _ = _; rw [wn_s (by decide), f4_20]; rfl
theorem f4_21 : at1 method_4_code 21 = some (.aload_n 0) := by decide +kernel
theorem s4_21 : V4 l Z b K (q + 1) 21 ls st H cN sN = (ldA ls 0 fun v => V4 l Z b K q 22 ls (v :: st) H cN sN) := by show Wn _ _ _ _ _ _ _ _ _ _ _ _ _ _ _ (q + 1) _ _ _ _ _ _ = _; rw [wn_s (by decide), f4_21]; rfl
theorem f4_22 : at1 method_4_code 22 = some (.iload_n 1) := by decide +kernel
theorem s4_22 : V4 l Z b K (q + 1) 22 ls st H cN sN = (ldI ls 1 fun v => V4 l Z b K q 23 ls (.int v :: st) H cN sN) := by show Wn _ _ _ _ _ _ _ _ _ _ _ _ _ _ _ (q + 1) _ _ _ _ _ _ = _; rw [wn_s (by decide), f4_22]; rfl
theorem f4_23 : at1 method_4_code 23 = some (.iconst 0) := by decide +kernel
theorem s4_23 : V4 l Z b K (q + 1) 23 ls st H cN sN = (V4 l Z b K q 24 ls (.int 0 :: st) H cN sN) := by show Wn _ _ _ _ _ _ _ _ _ _ _ _ _ _ _ (q + 1) _ _ _ _ _ _ = _; rw [wn_s (by decide), f4_23]; rfl
theorem f4_24 : at1 method_4_code 24 = some (.bastore) := by decide +kernel
theorem s4_24 : V4 l Z b K (q + 1) 24 ls st H cN sN = (popI st fun x r => popI r fun j r => popR r fun a r => arr H b.size a fun i ty vs => if ty = .byte then idx vs j fun _ => setN vs j.toNatClampNeg (.int (nar .byte x)) fun vs' => setH H i (.inl (.byte, vs')) fun H' => V4 l Z b K q 25 ls r H' cN sN else False) := by show Wn _ _ _ _ _ _ _ _ _ _ _ _ _ _ _ (q + 1) _ _ _ _ _ _ = _; rw [wn_s (by decide), f4_24]; rfl
theorem f4_25 : at1 method_4_code 25 = some (.iload_n 2) := by decide +kernel
theorem s4_25 : V4 l Z b K (q + 1) 25 ls st H cN sN = (ldI ls 2 fun v => V4 l Z b K q 26 ls (.int v :: st) H cN sN) := by show Wn _ _ _ _ _ _ _ _ _ _ _ _ _ _ _ (q + 1) _ _ _ _ _ _ = _; rw [wn_s (by decide), f4_25]; rfl
theorem f4_26 : at1 method_4_code 26 = some (.iconst 1) := by decide +kernel
theorem s4_26 : V4 l Z b K (q + 1) 26 ls st H cN sN = (V4 l Z b K q 27 ls (.int 1 :: st) H cN sN) := by show Wn _ _ _ _ _ _ _ _ _ _ _ _ _ _ _ (q + 1) _ _ _ _ _ _ = _; rw [wn_s (by decide), f4_26]; rfl
theorem f4_27 : at1 method_4_code 27 = some (.if_icmp .ne 12) := by decide +kernel
theorem s4_27 : V4 l Z b K (q + 1) 27 ls st H cN sN = (popI st fun y r => popI r fun x r => if x = y then V4 l Z b K q 30 ls r H cN sN else V4 l Z b K q 39 ls r H cN sN) := by show Wn _ _ _ _ _ _ _ _ _ _ _ _ _ _ _ (q + 1) _ _ _ _ _ _ = _; rw [wn_s (by decide), f4_27]; rfl
theorem f4_30 : at1 method_4_code 30 = some (.aload_n 0) := by decide +kernel
theorem s4_30 : V4 l Z b K (q + 1) 30 ls st H cN sN = (ldA ls 0 fun v => V4 l Z b K q 31 ls (v :: st) H cN sN) := by show Wn _ _ _ _ _ _ _ _ _ _ _ _ _ _ _ (q + 1) _ _ _ _ _ _ = _; rw [wn_s (by decide), f4_30]; rfl
theorem f4_31 : at1 method_4_code 31 = some (.iload_n 1) := by decide +kernel
theorem s4_31 : V4 l Z b K (q + 1) 31 ls st H cN sN = (ldI ls 1 fun v => V4 l Z b K q 32 ls (.int v :: st) H cN sN) := by show Wn _ _ _ _ _ _ _ _ _ _ _ _ _ _ _ (q + 1) _ _ _ _ _ _ = _; rw [wn_s (by decide), f4_31]; rfl
theorem f4_32 : at1 method_4_code 32 = some (.iconst 1) := by decide +kernel
theorem s4_32 : V4 l Z b K (q + 1) 32 ls st H cN sN = (V4 l Z b K q 33 ls (.int 1 :: st) H cN sN) := by show Wn _ _ _ _ _ _ _ _ _ _ _ _ _ _ _ (q + 1) _ _ _ _ _ _ = _; rw [wn_s (by decide), f4_32]; rfl
theorem f4_33 : at1 method_4_code 33 = some (.iadd) := by decide +kernel
theorem s4_33 : V4 l Z b K (q + 1) 33 ls st H cN sN = (popI st fun y r => popI r fun x r => V4 l Z b K q 34 ls (.int (x + y) :: r) H cN sN) := by show Wn _ _ _ _ _ _ _ _ _ _ _ _ _ _ _ (q + 1) _ _ _ _ _ _ = _; rw [wn_s (by decide), f4_33]; rfl
theorem f4_34 : at1 method_4_code 34 = some (.iconst (-1)) := by decide +kernel
theorem s4_34 : V4 l Z b K (q + 1) 34 ls st H cN sN = (V4 l Z b K q 35 ls (.int (-1) :: st) H cN sN) := by show Wn _ _ _ _ _ _ _ _ _ _ _ _ _ _ _ (q + 1) _ _ _ _ _ _ = _; rw [wn_s (by decide), f4_34]; rfl
theorem f4_35 : at1 method_4_code 35 = some (.bastore) := by decide +kernel
theorem s4_35 : V4 l Z b K (q + 1) 35 ls st H cN sN = (popI st fun x r => popI r fun j r => popR r fun a r => arr H b.size a fun i ty vs => if ty = .byte then idx vs j fun _ => setN vs j.toNatClampNeg (.int (nar .byte x)) fun vs' => setH H i (.inl (.byte, vs')) fun H' => V4 l Z b K q 36 ls r H' cN sN else False) := by show Wn _ _ _ _ _ _ _ _ _ _ _ _ _ _ _ (q + 1) _ _ _ _ _ _ = _; rw [wn_s (by decide), f4_35]; rfl
theorem f4_36 : at1 method_4_code 36 = some (.goto 37) := by decide +kernel
theorem s4_36 : V4 l Z b K (q + 1) 36 ls st H cN sN = (V4 l Z b K q 73 ls st H cN sN) := by show Wn _ _ _ _ _ _ _ _ _ _ _ _ _ _ _ (q + 1) _ _ _ _ _ _ = _; rw [wn_s (by decide), f4_36]; rfl
theorem f4_39 : at1 method_4_code 39 = some (.iload_n 2) := by decide +kernel
theorem s4_39 : V4 l Z b K (q + 1) 39 ls st H cN sN = (ldI ls 2 fun v => V4 l Z b K q 40 ls (.int v :: st) H cN sN) := by show Wn _ _ _ _ _ _ _ _ _ _ _ _ _ _ _ (q + 1) _ _ _ _ _ _ = _; rw [wn_s (by decide), f4_39]; rfl
theorem f4_40 : at1 method_4_code 40 = some (.iconst 2) := by decide +kernel
theorem s4_40 : V4 l Z b K (q + 1) 40 ls st H cN sN = (V4 l Z b K q 41 ls (.int 2 :: st) H cN sN) := by show Wn _ _ _ _ _ _ _ _ _ _ _ _ _ _ _ (q + 1) _ _ _ _ _ _ = _; rw [wn_s (by decide), f4_40]; rfl
theorem f4_41 : at1 method_4_code 41 = some (.if_icmp .ne 12) := by decide +kernel
theorem s4_41 : V4 l Z b K (q + 1) 41 ls st H cN sN = (popI st fun y r => popI r fun x r => if x = y then V4 l Z b K q 44 ls r H cN sN else V4 l Z b K q 53 ls r H cN sN) := by show Wn _ _ _ _ _ _ _ _ _ _ _ _ _ _ _ (q + 1) _ _ _ _ _ _ = _; rw [wn_s (by decide), f4_41]; rfl
theorem f4_44 : at1 method_4_code 44 = some (.aload_n 0) := by decide +kernel
theorem s4_44 : V4 l Z b K (q + 1) 44 ls st H cN sN = (ldA ls 0 fun v => V4 l Z b K q 45 ls (v :: st) H cN sN) := by show Wn _ _ _ _ _ _ _ _ _ _ _ _ _ _ _ (q + 1) _ _ _ _ _ _ = _; rw [wn_s (by decide), f4_44]; rfl
theorem f4_45 : at1 method_4_code 45 = some (.iload_n 1) := by decide +kernel
theorem s4_45 : V4 l Z b K (q + 1) 45 ls st H cN sN = (ldI ls 1 fun v => V4 l Z b K q 46 ls (.int v :: st) H cN sN) := by show Wn _ _ _ _ _ _ _ _ _ _ _ _ _ _ _ (q + 1) _ _ _ _ _ _ = _; rw [wn_s (by decide), f4_45]; rfl
theorem f4_46 : at1 method_4_code 46 = some (.iconst 1) := by decide +kernel
theorem s4_46 : V4 l Z b K (q + 1) 46 ls st H cN sN = (V4 l Z b K q 47 ls (.int 1 :: st) H cN sN) := by show Wn _ _ _ _ _ _ _ _ _ _ _ _ _ _ _ (q + 1) _ _ _ _ _ _ = _; rw [wn_s (by decide), f4_46]; rfl
theorem f4_47 : at1 method_4_code 47 = some (.iadd) := by decide +kernel
theorem s4_47 : V4 l Z b K (q + 1) 47 ls st H cN sN = (popI st fun y r => popI r fun x r => V4 l Z b K q 48 ls (.int (x + y) :: r) H cN sN) := by show Wn _ _ _ _ _ _ _ _ _ _ _ _ _ _ _ (q + 1) _ _ _ _ _ _ = _; rw [wn_s (by decide), f4_47]; rfl
theorem f4_48 : at1 method_4_code 48 = some (.iconst 1) := by decide +kernel
theorem s4_48 : V4 l Z b K (q + 1) 48 ls st H cN sN = (V4 l Z b K q 49 ls (.int 1 :: st) H cN sN) := by show Wn _ _ _ _ _ _ _ _ _ _ _ _ _ _ _ (q + 1) _ _ _ _ _ _ = _; rw [wn_s (by decide), f4_48]; rfl
theorem f4_49 : at1 method_4_code 49 = some (.bastore) := by decide +kernel
theorem s4_49 : V4 l Z b K (q + 1) 49 ls st H cN sN = (popI st fun x r => popI r fun j r => popR r fun a r => arr H b.size a fun i ty vs => if ty = .byte then idx vs j fun _ => setN vs j.toNatClampNeg (.int (nar .byte x)) fun vs' => setH H i (.inl (.byte, vs')) fun H' => V4 l Z b K q 50 ls r H' cN sN else False) := by show Wn _ _ _ _ _ _ _ _ _ _ _ _ _ _ _ (q + 1) _ _ _ _ _ _ = _; rw [wn_s (by decide), f4_49]; rfl
theorem f4_50 : at1 method_4_code 50 = some (.goto 23) := by decide +kernel
theorem s4_50 : V4 l Z b K (q + 1) 50 ls st H cN sN = (V4 l Z b K q 73 ls st H cN sN) := by show Wn _ _ _ _ _ _ _ _ _ _ _ _ _ _ _ (q + 1) _ _ _ _ _ _ = _; rw [wn_s (by decide), f4_50]; rfl
theorem f4_53 : at1 method_4_code 53 = some (.aload_n 0) := by decide +kernel
theorem s4_53 : V4 l Z b K (q + 1) 53 ls st H cN sN = (ldA ls 0 fun v => V4 l Z b K q 54 ls (v :: st) H cN sN) := by show Wn _ _ _ _ _ _ _ _ _ _ _ _ _ _ _ (q + 1) _ _ _ _ _ _ = _; rw [wn_s (by decide), f4_53]; rfl
theorem f4_54 : at1 method_4_code 54 = some (.iload_n 1) := by decide +kernel
theorem s4_54 : V4 l Z b K (q + 1) 54 ls st H cN sN = (ldI ls 1 fun v => V4 l Z b K q 55 ls (.int v :: st) H cN sN) := by show Wn _ _ _ _ _ _ _ _ _ _ _ _ _ _ _ (q + 1) _ _ _ _ _ _ = _; rw [wn_s (by decide), f4_54]; rfl
theorem f4_55 : at1 method_4_code 55 = some (.iconst 1) := by decide +kernel
theorem s4_55 : V4 l Z b K (q + 1) 55 ls st H cN sN = (V4 l Z b K q 56 ls (.int 1 :: st) H cN sN) := by show Wn _ _ _ _ _ _ _ _ _ _ _ _ _ _ _ (q + 1) _ _ _ _ _ _ = _; rw [wn_s (by decide), f4_55]; rfl
theorem f4_56 : at1 method_4_code 56 = some (.iadd) := by decide +kernel
theorem s4_56 : V4 l Z b K (q + 1) 56 ls st H cN sN = (popI st fun y r => popI r fun x r => V4 l Z b K q 57 ls (.int (x + y) :: r) H cN sN) := by show Wn _ _ _ _ _ _ _ _ _ _ _ _ _ _ _ (q + 1) _ _ _ _ _ _ = _; rw [wn_s (by decide), f4_56]; rfl
theorem f4_57 : at1 method_4_code 57 = some (.iload_n 3) := by decide +kernel
theorem s4_57 : V4 l Z b K (q + 1) 57 ls st H cN sN = (ldI ls 3 fun v => V4 l Z b K q 58 ls (.int v :: st) H cN sN) := by show Wn _ _ _ _ _ _ _ _ _ _ _ _ _ _ _ (q + 1) _ _ _ _ _ _ = _; rw [wn_s (by decide), f4_57]; rfl
theorem f4_58 : at1 method_4_code 58 = some (.iconst 1) := by decide +kernel
theorem s4_58 : V4 l Z b K (q + 1) 58 ls st H cN sN = (V4 l Z b K q 59 ls (.int 1 :: st) H cN sN) := by show Wn _ _ _ _ _ _ _ _ _ _ _ _ _ _ _ (q + 1) _ _ _ _ _ _ = _; rw [wn_s (by decide), f4_58]; rfl
theorem f4_59 : at1 method_4_code 59 = some (.if_icmp .eq 8) := by decide +kernel
theorem s4_59 : V4 l Z b K (q + 1) 59 ls st H cN sN = (popI st fun y r => popI r fun x r => if x = y then V4 l Z b K q 67 ls r H cN sN else V4 l Z b K q 62 ls r H cN sN) := by show Wn _ _ _ _ _ _ _ _ _ _ _ _ _ _ _ (q + 1) _ _ _ _ _ _ = _; rw [wn_s (by decide), f4_59]; rfl
theorem f4_62 : at1 method_4_code 62 = some (.iload_n 3) := by decide +kernel
theorem s4_62 : V4 l Z b K (q + 1) 62 ls st H cN sN = (ldI ls 3 fun v => V4 l Z b K q 63 ls (.int v :: st) H cN sN) := by show Wn _ _ _ _ _ _ _ _ _ _ _ _ _ _ _ (q + 1) _ _ _ _ _ _ = _; rw [wn_s (by decide), f4_62]; rfl
theorem f4_63 : at1 method_4_code 63 = some (.iconst (-1)) := by decide +kernel
theorem s4_63 : V4 l Z b K (q + 1) 63 ls st H cN sN = (V4 l Z b K q 64 ls (.int (-1) :: st) H cN sN) := by show Wn _ _ _ _ _ _ _ _ _ _ _ _ _ _ _ (q + 1) _ _ _ _ _ _ = _; rw [wn_s (by decide), f4_63]; rfl
theorem f4_64 : at1 method_4_code 64 = some (.if_icmp .ne 7) := by decide +kernel
theorem s4_64 : V4 l Z b K (q + 1) 64 ls st H cN sN = (popI st fun y r => popI r fun x r => if x = y then V4 l Z b K q 67 ls r H cN sN else V4 l Z b K q 71 ls r H cN sN) := by show Wn _ _ _ _ _ _ _ _ _ _ _ _ _ _ _ (q + 1) _ _ _ _ _ _ = _; rw [wn_s (by decide), f4_64]; rfl
theorem f4_67 : at1 method_4_code 67 = some (.iconst 2) := by decide +kernel
theorem s4_67 : V4 l Z b K (q + 1) 67 ls st H cN sN = (V4 l Z b K q 68 ls (.int 2 :: st) H cN sN) := by show Wn _ _ _ _ _ _ _ _ _ _ _ _ _ _ _ (q + 1) _ _ _ _ _ _ = _; rw [wn_s (by decide), f4_67]; rfl
theorem f4_68 : at1 method_4_code 68 = some (.goto 4) := by decide +kernel
theorem s4_68 : V4 l Z b K (q + 1) 68 ls st H cN sN = (V4 l Z b K q 72 ls st H cN sN) := by show Wn _ _ _ _ _ _ _ _ _ _ _ _ _ _ _ (q + 1) _ _ _ _ _ _ = _; rw [wn_s (by decide), f4_68]; rfl
theorem f4_71 : at1 method_4_code 71 = some (.iload_n 3) := by decide +kernel
theorem s4_71 : V4 l Z b K (q + 1) 71 ls st H cN sN = (ldI ls 3 fun v => V4 l Z b K q 72 ls (.int v :: st) H cN sN) := by show Wn _ _ _ _ _ _ _ _ _ _ _ _ _ _ _ (q + 1) _ _ _ _ _ _ = _; rw [wn_s (by decide), f4_71]; rfl
theorem f4_72 : at1 method_4_code 72 = some (.bastore) := by decide +kernel
theorem s4_72 : V4 l Z b K (q + 1) 72 ls st H cN sN = (popI st fun x r => popI r fun j r => popR r fun a r => arr H b.size a fun i ty vs => if ty = .byte then idx vs j fun _ => setN vs j.toNatClampNeg (.int (nar .byte x)) fun vs' => setH H i (.inl (.byte, vs')) fun H' => V4 l Z b K q 73 ls r H' cN sN else False) := by show Wn _ _ _ _ _ _ _ _ _ _ _ _ _ _ _ (q + 1) _ _ _ _ _ _ = _; rw [wn_s (by decide), f4_72]; rfl
theorem f4_73 : at1 method_4_code 73 = some (.iload_n 1) := by decide +kernel
theorem s4_73 : V4 l Z b K (q + 1) 73 ls st H cN sN = (ldI ls 1 fun v => V4 l Z b K q 74 ls (.int v :: st) H cN sN) := by show Wn _ _ _ _ _ _ _ _ _ _ _ _ _ _ _ (q + 1) _ _ _ _ _ _ = _; rw [wn_s (by decide), f4_73]; rfl
theorem f4_74 : at1 method_4_code 74 = some (.iconst 2) := by decide +kernel
theorem s4_74 : V4 l Z b K (q + 1) 74 ls st H cN sN = (V4 l Z b K q 75 ls (.int 2 :: st) H cN sN) := by show Wn _ _ _ _ _ _ _ _ _ _ _ _ _ _ _ (q + 1) _ _ _ _ _ _ = _; rw [wn_s (by decide), f4_74]; rfl
theorem f4_75 : at1 method_4_code 75 = some (.iadd) := by decide +kernel
theorem s4_75 : V4 l Z b K (q + 1) 75 ls st H cN sN = (popI st fun y r => popI r fun x r => V4 l Z b K q 76 ls (.int (x + y) :: r) H cN sN) := by show Wn _ _ _ _ _ _ _ _ _ _ _ _ _ _ _ (q + 1) _ _ _ _ _ _ = _; rw [wn_s (by decide), f4_75]; rfl
theorem f4_76 : at1 method_4_code 76 = some (.ireturn) := by decide +kernel
theorem s4_76 : V4 l Z b K (q + 1) 76 ls st H cN sN = (popI st fun x r => if cN ≤ 0 ∧ sN ≤ 0 then K (some (.int x)) H else False) := by show Wn _ _ _ _ _ _ _ _ _ _ _ _ _ _ _ (q + 1) _ _ _ _ _ _ = _; rw [wn_s (by decide), f4_76]; rfl
theorem S4 : type_of% @z4 ∧ type_of% @s4_0 ∧ type_of% @s4_1 ∧ type_of% @s4_4 ∧ type_of% @s4_5 ∧ type_of% @s4_6 ∧ type_of% @s4_7 ∧ type_of% @s4_10 ∧ type_of% @s4_12 ∧ type_of% @s4_15 ∧ type_of% @s4_16 ∧ type_of% @s4_17 ∧ type_of% @s4_18 ∧ type_of% @s4_19 ∧ type_of% @s4_20 ∧ type_of% @s4_21 ∧ type_of% @s4_22 ∧ type_of% @s4_23 ∧ type_of% @s4_24 ∧ type_of% @s4_25 ∧ type_of% @s4_26 ∧ type_of% @s4_27 ∧ type_of% @s4_30 ∧ type_of% @s4_31 ∧ type_of% @s4_32 ∧ type_of% @s4_33 ∧ type_of% @s4_34 ∧ type_of% @s4_35 ∧ type_of% @s4_36 ∧ type_of% @s4_39 ∧ type_of% @s4_40 ∧ type_of% @s4_41 ∧ type_of% @s4_44 ∧ type_of% @s4_45 ∧ type_of% @s4_46 ∧ type_of% @s4_47 ∧ type_of% @s4_48 ∧ type_of% @s4_49 ∧ type_of% @s4_50 ∧ type_of% @s4_53 ∧ type_of% @s4_54 ∧ type_of% @s4_55 ∧ type_of% @s4_56 ∧ type_of% @s4_57 ∧ type_of% @s4_58 ∧ type_of% @s4_59 ∧ type_of% @s4_62 ∧ type_of% @s4_63 ∧ type_of% @s4_64 ∧ type_of% @s4_67 ∧ type_of% @s4_68 ∧ type_of% @s4_71 ∧ type_of% @s4_72 ∧ type_of% @s4_73 ∧ type_of% @s4_74 ∧ type_of% @s4_75 ∧ type_of% @s4_76 := ⟨@z4, @s4_0, @s4_1, @s4_4, @s4_5, @s4_6, @s4_7, @s4_10, @s4_12, @s4_15, @s4_16, @s4_17, @s4_18, @s4_19, @s4_20, @s4_21, @s4_22, @s4_23, @s4_24, @s4_25, @s4_26, @s4_27, @s4_30, @s4_31, @s4_32, @s4_33, @s4_34, @s4_35, @s4_36, @s4_39, @s4_40, @s4_41, @s4_44, @s4_45, @s4_46, @s4_47, @s4_48, @s4_49, @s4_50, @s4_53, @s4_54, @s4_55, @s4_56, @s4_57, @s4_58, @s4_59, @s4_62, @s4_63, @s4_64, @s4_67, @s4_68, @s4_71, @s4_72, @s4_73, @s4_74, @s4_75, @s4_76⟩
theorem ef4 (m : MethodId) (x0 : Nat) (x1 : Int32) (x2 : Int32) (x3 : Int32) : entryFrame m [.ref x0, .int x1, .int x2, .int x3].toArray 4 = mkF m 0 [.val (.ref x0), .val (.int x1), .val (.int x2), .val (.int x3)].toArray [] := by first | (simp [entryFrame, mkF, argsToLocals, Value.category, maxLocals, List.replicate]; done) | rfl
theorem pn4 : plainFor y4 = true := by first | decide +kernel | exact plainFor_of_name (by simp [y4, plainName, overriddenIn])
theorem pd4 : parseMethodDescriptor "([BIIB)I" = some ⟨[(.array .byte), .int, .int, .byte], some .int⟩ := by decide +kernel
theorem c4 (x0 : Nat) (x1 : Int32) (x2 : Int32) (x3 : Int32) (g : G4 l Z b K 0 [.val (.ref x0), .val (.int x1), .val (.int x2), .val (.int x3)] [] H 0 0) : Con tables_1 l Z b y4 method_4_code 4 (some .int) R4 [.ref x0, .int x1, .int x2, .int x3] H K := G.con pn4 (fun m => ef4 m x0 x1 x2 x3) g
end Body4
section Calls0
variable {l : Launch} {Z : State} {b : Heap} {K : Option Value → List Cel → Prop} {ls : List Slot} {rest : List Value} {H : List Cel} {cN sN : Nat} {K' : Option Value → List Cel → Prop}
theorem k0_130 {x0 : Int32} (C : Con tables_1 l Z b y3 method_3_code 1 (some .int) R3 [.int x0] H K') (k : ∀ v H', K' v H' → G0 l Z b K 133 ls (v.toList ++ rest) H' (cN + 0) (sN + 0)) (hls : ls.length = maxLocals := by rfl) (hlo : wt rest + (1 + 11) + R3.locals ≤ room_1.locals := by exact Nat.le_of_ble_eq_true rfl) (hc : cN + R3.cells ≤ room_1.cells := by exact Nat.le_of_ble_eq_true rfl) (hs : sN + R3.slots ≤ room_1.slots := by exact Nat.le_of_ble_eq_true rfl) : G0 l Z b K 130 ls (.int x0 :: rest) H cN sN := G.callS (List.mem_of_getElem? (i := 10) rfl) (List.mem_of_getElem? (i := 11) rfl) (List.mem_of_getElem? (i := 8) rfl) (List.mem_of_getElem? (i := 12) rfl) ⟨by decide, by decide⟩ pd3 C f0_130 rfl rfl hls (by decide) hlo hc hs k
theorem kf0_130 {x0 : Int32} {r : Value} {Hr : List Cel} (C : Con tables_1 l Z b y3 method_3_code 1 (some .int) R3 [.int x0] H (is (some r) Hr)) (k : G0 l Z b K 133 ls (r :: rest) Hr (cN + 0) (sN + 0)) (hls : ls.length = maxLocals := by rfl) (hlo : wt rest + (1 + 11) + R3.locals ≤ room_1.locals := by exact Nat.le_of_ble_eq_true rfl) (hc : cN + R3.cells ≤ room_1.cells := by exact Nat.le_of_ble_eq_true rfl) (hs : sN + R3.slots ≤ room_1.slots := by exact Nat.le_of_ble_eq_true rfl) : G0 l Z b K 130 ls (.int x0 :: rest) H cN sN := k0_130 C (fun v H' h => by obtain ⟨rfl, rfl⟩ := h; exact k) hls hlo hc hs
theorem k0_147 {x0 : Int32} (C : Con tables_1 l Z b y3 method_3_code 1 (some .int) R3 [.int x0] H K') (k : ∀ v H', K' v H' → G0 l Z b K 150 ls (v.toList ++ rest) H' (cN + 0) (sN + 0)) (hls : ls.length = maxLocals := by rfl) (hlo : wt rest + (1 + 11) + R3.locals ≤ room_1.locals := by exact Nat.le_of_ble_eq_true rfl) (hc : cN + R3.cells ≤ room_1.cells := by exact Nat.le_of_ble_eq_true rfl) (hs : sN + R3.slots ≤ room_1.slots := by exact Nat.le_of_ble_eq_true rfl) : G0 l Z b K 147 ls (.int x0 :: rest) H cN sN := G.callS (List.mem_of_getElem? (i := 10) rfl) (List.mem_of_getElem? (i := 11) rfl) (List.mem_of_getElem? (i := 8) rfl) (List.mem_of_getElem? (i := 12) rfl) ⟨by decide, by decide⟩ pd3 C f0_147 rfl rfl hls (by decide) hlo hc hs k
theorem kf0_147 {x0 : Int32} {r : Value} {Hr : List Cel} (C : Con tables_1 l Z b y3 method_3_code 1 (some .int) R3 [.int x0] H (is (some r) Hr)) (k : G0 l Z b K 150 ls (r :: rest) Hr (cN + 0) (sN + 0)) (hls : ls.length = maxLocals := by rfl) (hlo : wt rest + (1 + 11) + R3.locals ≤ room_1.locals := by exact Nat.le_of_ble_eq_true rfl) (hc : cN + R3.cells ≤ room_1.cells := by exact Nat.le_of_ble_eq_true rfl) (hs : sN + R3.slots ≤ room_1.slots := by exact Nat.le_of_ble_eq_true rfl) : G0 l Z b K 147 ls (.int x0 :: rest) H cN sN := k0_147 C (fun v H' h => by obtain ⟨rfl, rfl⟩ := h; exact k) hls hlo hc hs
theorem k0_164 {x0 : Int32} (C : Con tables_1 l Z b y3 method_3_code 1 (some .int) R3 [.int x0] H K') (k : ∀ v H', K' v H' → G0 l Z b K 167 ls (v.toList ++ rest) H' (cN + 0) (sN + 0)) (hls : ls.length = maxLocals := by rfl) (hlo : wt rest + (1 + 11) + R3.locals ≤ room_1.locals := by exact Nat.le_of_ble_eq_true rfl) (hc : cN + R3.cells ≤ room_1.cells := by exact Nat.le_of_ble_eq_true rfl) (hs : sN + R3.slots ≤ room_1.slots := by exact Nat.le_of_ble_eq_true rfl) : G0 l Z b K 164 ls (.int x0 :: rest) H cN sN := G.callS (List.mem_of_getElem? (i := 10) rfl) (List.mem_of_getElem? (i := 11) rfl) (List.mem_of_getElem? (i := 8) rfl) (List.mem_of_getElem? (i := 12) rfl) ⟨by decide, by decide⟩ pd3 C f0_164 rfl rfl hls (by decide) hlo hc hs k
theorem kf0_164 {x0 : Int32} {r : Value} {Hr : List Cel} (C : Con tables_1 l Z b y3 method_3_code 1 (some .int) R3 [.int x0] H (is (some r) Hr)) (k : G0 l Z b K 167 ls (r :: rest) Hr (cN + 0) (sN + 0)) (hls : ls.length = maxLocals := by rfl) (hlo : wt rest + (1 + 11) + R3.locals ≤ room_1.locals := by exact Nat.le_of_ble_eq_true rfl) (hc : cN + R3.cells ≤ room_1.cells := by exact Nat.le_of_ble_eq_true rfl) (hs : sN + R3.slots ≤ room_1.slots := by exact Nat.le_of_ble_eq_true rfl) : G0 l Z b K 164 ls (.int x0 :: rest) H cN sN := k0_164 C (fun v H' h => by obtain ⟨rfl, rfl⟩ := h; exact k) hls hlo hc hs
theorem k0_181 {x0 : Int32} (C : Con tables_1 l Z b y3 method_3_code 1 (some .int) R3 [.int x0] H K') (k : ∀ v H', K' v H' → G0 l Z b K 184 ls (v.toList ++ rest) H' (cN + 0) (sN + 0)) (hls : ls.length = maxLocals := by rfl) (hlo : wt rest + (1 + 11) + R3.locals ≤ room_1.locals := by exact Nat.le_of_ble_eq_true rfl) (hc : cN + R3.cells ≤ room_1.cells := by exact Nat.le_of_ble_eq_true rfl) (hs : sN + R3.slots ≤ room_1.slots := by exact Nat.le_of_ble_eq_true rfl) : G0 l Z b K 181 ls (.int x0 :: rest) H cN sN := G.callS (List.mem_of_getElem? (i := 10) rfl) (List.mem_of_getElem? (i := 11) rfl) (List.mem_of_getElem? (i := 8) rfl) (List.mem_of_getElem? (i := 12) rfl) ⟨by decide, by decide⟩ pd3 C f0_181 rfl rfl hls (by decide) hlo hc hs k
theorem kf0_181 {x0 : Int32} {r : Value} {Hr : List Cel} (C : Con tables_1 l Z b y3 method_3_code 1 (some .int) R3 [.int x0] H (is (some r) Hr)) (k : G0 l Z b K 184 ls (r :: rest) Hr (cN + 0) (sN + 0)) (hls : ls.length = maxLocals := by rfl) (hlo : wt rest + (1 + 11) + R3.locals ≤ room_1.locals := by exact Nat.le_of_ble_eq_true rfl) (hc : cN + R3.cells ≤ room_1.cells := by exact Nat.le_of_ble_eq_true rfl) (hs : sN + R3.slots ≤ room_1.slots := by exact Nat.le_of_ble_eq_true rfl) : G0 l Z b K 181 ls (.int x0 :: rest) H cN sN := k0_181 C (fun v H' h => by obtain ⟨rfl, rfl⟩ := h; exact k) hls hlo hc hs
theorem k0_241 {x0 : Nat} {x1 : Int32} {x2 : Int32} {x3 : Int32} (C : Con tables_1 l Z b y4 method_4_code 4 (some .int) R4 [.ref x0, .int x1, .int x2, .int x3] H K') (k : ∀ v H', K' v H' → G0 l Z b K 244 ls (v.toList ++ rest) H' (cN + 0) (sN + 0)) (hls : ls.length = maxLocals := by rfl) (hlo : wt rest + (4 + 11) + R4.locals ≤ room_1.locals := by exact Nat.le_of_ble_eq_true rfl) (hc : cN + R4.cells ≤ room_1.cells := by exact Nat.le_of_ble_eq_true rfl) (hs : sN + R4.slots ≤ room_1.slots := by exact Nat.le_of_ble_eq_true rfl) : G0 l Z b K 241 ls (.int x3 :: .int x2 :: .int x1 :: .ref x0 :: rest) H cN sN := G.callS (List.mem_of_getElem? (i := 13) rfl) (List.mem_of_getElem? (i := 14) rfl) (List.mem_of_getElem? (i := 8) rfl) (List.mem_of_getElem? (i := 15) rfl) ⟨by decide, by decide⟩ pd4 C f0_241 rfl rfl hls (by decide) hlo hc hs k
theorem kf0_241 {x0 : Nat} {x1 : Int32} {x2 : Int32} {x3 : Int32} {r : Value} {Hr : List Cel} (C : Con tables_1 l Z b y4 method_4_code 4 (some .int) R4 [.ref x0, .int x1, .int x2, .int x3] H (is (some r) Hr)) (k : G0 l Z b K 244 ls (r :: rest) Hr (cN + 0) (sN + 0)) (hls : ls.length = maxLocals := by rfl) (hlo : wt rest + (4 + 11) + R4.locals ≤ room_1.locals := by exact Nat.le_of_ble_eq_true rfl) (hc : cN + R4.cells ≤ room_1.cells := by exact Nat.le_of_ble_eq_true rfl) (hs : sN + R4.slots ≤ room_1.slots := by exact Nat.le_of_ble_eq_true rfl) : G0 l Z b K 241 ls (.int x3 :: .int x2 :: .int x1 :: .ref x0 :: rest) H cN sN := k0_241 C (fun v H' h => by obtain ⟨rfl, rfl⟩ := h; exact k) hls hlo hc hs
theorem k0_263 {x0 : Nat} {x1 : Int32} {x2 : Int32} {x3 : Int32} (C : Con tables_1 l Z b y4 method_4_code 4 (some .int) R4 [.ref x0, .int x1, .int x2, .int x3] H K') (k : ∀ v H', K' v H' → G0 l Z b K 266 ls (v.toList ++ rest) H' (cN + 0) (sN + 0)) (hls : ls.length = maxLocals := by rfl) (hlo : wt rest + (4 + 11) + R4.locals ≤ room_1.locals := by exact Nat.le_of_ble_eq_true rfl) (hc : cN + R4.cells ≤ room_1.cells := by exact Nat.le_of_ble_eq_true rfl) (hs : sN + R4.slots ≤ room_1.slots := by exact Nat.le_of_ble_eq_true rfl) : G0 l Z b K 263 ls (.int x3 :: .int x2 :: .int x1 :: .ref x0 :: rest) H cN sN := G.callS (List.mem_of_getElem? (i := 13) rfl) (List.mem_of_getElem? (i := 14) rfl) (List.mem_of_getElem? (i := 8) rfl) (List.mem_of_getElem? (i := 15) rfl) ⟨by decide, by decide⟩ pd4 C f0_263 rfl rfl hls (by decide) hlo hc hs k
theorem kf0_263 {x0 : Nat} {x1 : Int32} {x2 : Int32} {x3 : Int32} {r : Value} {Hr : List Cel} (C : Con tables_1 l Z b y4 method_4_code 4 (some .int) R4 [.ref x0, .int x1, .int x2, .int x3] H (is (some r) Hr)) (k : G0 l Z b K 266 ls (r :: rest) Hr (cN + 0) (sN + 0)) (hls : ls.length = maxLocals := by rfl) (hlo : wt rest + (4 + 11) + R4.locals ≤ room_1.locals := by exact Nat.le_of_ble_eq_true rfl) (hc : cN + R4.cells ≤ room_1.cells := by exact Nat.le_of_ble_eq_true rfl) (hs : sN + R4.slots ≤ room_1.slots := by exact Nat.le_of_ble_eq_true rfl) : G0 l Z b K 263 ls (.int x3 :: .int x2 :: .int x1 :: .ref x0 :: rest) H cN sN := k0_263 C (fun v H' h => by obtain ⟨rfl, rfl⟩ := h; exact k) hls hlo hc hs
theorem k0_285 {x0 : Nat} {x1 : Int32} {x2 : Int32} {x3 : Int32} (C : Con tables_1 l Z b y4 method_4_code 4 (some .int) R4 [.ref x0, .int x1, .int x2, .int x3] H K') (k : ∀ v H', K' v H' → G0 l Z b K 288 ls (v.toList ++ rest) H' (cN + 0) (sN + 0)) (hls : ls.length = maxLocals := by rfl) (hlo : wt rest + (4 + 11) + R4.locals ≤ room_1.locals := by exact Nat.le_of_ble_eq_true rfl) (hc : cN + R4.cells ≤ room_1.cells := by exact Nat.le_of_ble_eq_true rfl) (hs : sN + R4.slots ≤ room_1.slots := by exact Nat.le_of_ble_eq_true rfl) : G0 l Z b K 285 ls (.int x3 :: .int x2 :: .int x1 :: .ref x0 :: rest) H cN sN := G.callS (List.mem_of_getElem? (i := 13) rfl) (List.mem_of_getElem? (i := 14) rfl) (List.mem_of_getElem? (i := 8) rfl) (List.mem_of_getElem? (i := 15) rfl) ⟨by decide, by decide⟩ pd4 C f0_285 rfl rfl hls (by decide) hlo hc hs k
theorem kf0_285 {x0 : Nat} {x1 : Int32} {x2 : Int32} {x3 : Int32} {r : Value} {Hr : List Cel} (C : Con tables_1 l Z b y4 method_4_code 4 (some .int) R4 [.ref x0, .int x1, .int x2, .int x3] H (is (some r) Hr)) (k : G0 l Z b K 288 ls (r :: rest) Hr (cN + 0) (sN + 0)) (hls : ls.length = maxLocals := by rfl) (hlo : wt rest + (4 + 11) + R4.locals ≤ room_1.locals := by exact Nat.le_of_ble_eq_true rfl) (hc : cN + R4.cells ≤ room_1.cells := by exact Nat.le_of_ble_eq_true rfl) (hs : sN + R4.slots ≤ room_1.slots := by exact Nat.le_of_ble_eq_true rfl) : G0 l Z b K 285 ls (.int x3 :: .int x2 :: .int x1 :: .ref x0 :: rest) H cN sN := k0_285 C (fun v H' h => by obtain ⟨rfl, rfl⟩ := h; exact k) hls hlo hc hs
theorem k0_307 {x0 : Nat} {x1 : Int32} {x2 : Int32} {x3 : Int32} (C : Con tables_1 l Z b y4 method_4_code 4 (some .int) R4 [.ref x0, .int x1, .int x2, .int x3] H K') (k : ∀ v H', K' v H' → G0 l Z b K 310 ls (v.toList ++ rest) H' (cN + 0) (sN + 0)) (hls : ls.length = maxLocals := by rfl) (hlo : wt rest + (4 + 11) + R4.locals ≤ room_1.locals := by exact Nat.le_of_ble_eq_true rfl) (hc : cN + R4.cells ≤ room_1.cells := by exact Nat.le_of_ble_eq_true rfl) (hs : sN + R4.slots ≤ room_1.slots := by exact Nat.le_of_ble_eq_true rfl) : G0 l Z b K 307 ls (.int x3 :: .int x2 :: .int x1 :: .ref x0 :: rest) H cN sN := G.callS (List.mem_of_getElem? (i := 13) rfl) (List.mem_of_getElem? (i := 14) rfl) (List.mem_of_getElem? (i := 8) rfl) (List.mem_of_getElem? (i := 15) rfl) ⟨by decide, by decide⟩ pd4 C f0_307 rfl rfl hls (by decide) hlo hc hs k
theorem kf0_307 {x0 : Nat} {x1 : Int32} {x2 : Int32} {x3 : Int32} {r : Value} {Hr : List Cel} (C : Con tables_1 l Z b y4 method_4_code 4 (some .int) R4 [.ref x0, .int x1, .int x2, .int x3] H (is (some r) Hr)) (k : G0 l Z b K 310 ls (r :: rest) Hr (cN + 0) (sN + 0)) (hls : ls.length = maxLocals := by rfl) (hlo : wt rest + (4 + 11) + R4.locals ≤ room_1.locals := by exact Nat.le_of_ble_eq_true rfl) (hc : cN + R4.cells ≤ room_1.cells := by exact Nat.le_of_ble_eq_true rfl) (hs : sN + R4.slots ≤ room_1.slots := by exact Nat.le_of_ble_eq_true rfl) : G0 l Z b K 307 ls (.int x3 :: .int x2 :: .int x1 :: .ref x0 :: rest) H cN sN := k0_307 C (fun v H' h => by obtain ⟨rfl, rfl⟩ := h; exact k) hls hlo hc hs
theorem k0_328 {x0 : Nat} {x1 : Int32} (C : Con tables_1 l Z b y1 prog_19_method_4_code 3 (some .int) R1 [.ref x0, .int x1] H K') (k : ∀ v H', K' v H' → G0 l Z b K 331 ls (v.toList ++ rest) H' (cN + 0) (sN + 0)) (hls : ls.length = maxLocals := by rfl) (hlo : wt rest + (3 + 11) + R1.locals ≤ room_1.locals := by exact Nat.le_of_ble_eq_true rfl) (hc : cN + R1.cells ≤ room_1.cells := by exact Nat.le_of_ble_eq_true rfl) (hs : sN + R1.slots ≤ room_1.slots := by exact Nat.le_of_ble_eq_true rfl) : G0 l Z b K 328 ls (.int x1 :: .ref x0 :: rest) H cN sN := G.callS (List.mem_of_getElem? (i := 2) rfl) (List.mem_of_getElem? (i := 3) rfl) (List.mem_of_getElem? (i := 4) rfl) (List.mem_of_getElem? (i := 5) rfl) ⟨by decide, by decide⟩ pd1 C f0_328 rfl rfl hls (by decide) hlo hc hs k
theorem kf0_328 {x0 : Nat} {x1 : Int32} {r : Value} {Hr : List Cel} (C : Con tables_1 l Z b y1 prog_19_method_4_code 3 (some .int) R1 [.ref x0, .int x1] H (is (some r) Hr)) (k : G0 l Z b K 331 ls (r :: rest) Hr (cN + 0) (sN + 0)) (hls : ls.length = maxLocals := by rfl) (hlo : wt rest + (3 + 11) + R1.locals ≤ room_1.locals := by exact Nat.le_of_ble_eq_true rfl) (hc : cN + R1.cells ≤ room_1.cells := by exact Nat.le_of_ble_eq_true rfl) (hs : sN + R1.slots ≤ room_1.slots := by exact Nat.le_of_ble_eq_true rfl) : G0 l Z b K 328 ls (.int x1 :: .ref x0 :: rest) H cN sN := k0_328 C (fun v H' h => by obtain ⟨rfl, rfl⟩ := h; exact k) hls hlo hc hs
theorem k0_336 {x0 : Nat} {x1 : Int32} {x2 : Int32} (C : Con tables_1 l Z b y2 method_5_code 4 (some .int) R2 [.ref x0, .int x1, .int x2] H K') (k : ∀ v H', K' v H' → G0 l Z b K 339 ls (v.toList ++ rest) H' (cN + 0) (sN + 0)) (hls : ls.length = maxLocals := by rfl) (hlo : wt rest + (4 + 11) + R2.locals ≤ room_1.locals := by exact Nat.le_of_ble_eq_true rfl) (hc : cN + R2.cells ≤ room_1.cells := by exact Nat.le_of_ble_eq_true rfl) (hs : sN + R2.slots ≤ room_1.slots := by exact Nat.le_of_ble_eq_true rfl) : G0 l Z b K 336 ls (.int x2 :: .int x1 :: .ref x0 :: rest) H cN sN := G.callS (List.mem_of_getElem? (i := 6) rfl) (List.mem_of_getElem? (i := 7) rfl) (List.mem_of_getElem? (i := 8) rfl) (List.mem_of_getElem? (i := 9) rfl) ⟨by decide, by decide⟩ pd2 C f0_336 rfl rfl hls (by decide) hlo hc hs k
theorem kf0_336 {x0 : Nat} {x1 : Int32} {x2 : Int32} {r : Value} {Hr : List Cel} (C : Con tables_1 l Z b y2 method_5_code 4 (some .int) R2 [.ref x0, .int x1, .int x2] H (is (some r) Hr)) (k : G0 l Z b K 339 ls (r :: rest) Hr (cN + 0) (sN + 0)) (hls : ls.length = maxLocals := by rfl) (hlo : wt rest + (4 + 11) + R2.locals ≤ room_1.locals := by exact Nat.le_of_ble_eq_true rfl) (hc : cN + R2.cells ≤ room_1.cells := by exact Nat.le_of_ble_eq_true rfl) (hs : sN + R2.slots ≤ room_1.slots := by exact Nat.le_of_ble_eq_true rfl) : G0 l Z b K 336 ls (.int x2 :: .int x1 :: .ref x0 :: rest) H cN sN := k0_336 C (fun v H' h => by obtain ⟨rfl, rfl⟩ := h; exact k) hls hlo hc hs
end Calls0
section Calls2
variable {l : Launch} {Z : State} {b : Heap} {K : Option Value → List Cel → Prop} {ls : List Slot} {rest : List Value} {H : List Cel} {cN sN : Nat} {K' : Option Value → List Cel → Prop}
theorem k2_28 {x0 : Int32} (C : Con tables_1 l Z b y3 method_3_code 1 (some .int) R3 [.int x0] H K') (k : ∀ v H', K' v H' → G2 l Z b K 31 ls (v.toList ++ rest) H' (cN + 0) (sN + 0)) (hls : ls.length = 4 := by rfl) (hlo : wt rest + (1 + 11) + R3.locals ≤ R2.locals := by exact Nat.le_of_ble_eq_true rfl) (hc : cN + R3.cells ≤ R2.cells := by exact Nat.le_of_ble_eq_true rfl) (hs : sN + R3.slots ≤ R2.slots := by exact Nat.le_of_ble_eq_true rfl) : G2 l Z b K 28 ls (.int x0 :: rest) H cN sN := G.callS (List.mem_of_getElem? (i := 10) rfl) (List.mem_of_getElem? (i := 11) rfl) (List.mem_of_getElem? (i := 8) rfl) (List.mem_of_getElem? (i := 12) rfl) ⟨by decide, by decide⟩ pd3 C f2_28 rfl rfl hls (by decide) hlo hc hs k
theorem kf2_28 {x0 : Int32} {r : Value} {Hr : List Cel} (C : Con tables_1 l Z b y3 method_3_code 1 (some .int) R3 [.int x0] H (is (some r) Hr)) (k : G2 l Z b K 31 ls (r :: rest) Hr (cN + 0) (sN + 0)) (hls : ls.length = 4 := by rfl) (hlo : wt rest + (1 + 11) + R3.locals ≤ R2.locals := by exact Nat.le_of_ble_eq_true rfl) (hc : cN + R3.cells ≤ R2.cells := by exact Nat.le_of_ble_eq_true rfl) (hs : sN + R3.slots ≤ R2.slots := by exact Nat.le_of_ble_eq_true rfl) : G2 l Z b K 28 ls (.int x0 :: rest) H cN sN := k2_28 C (fun v H' h => by obtain ⟨rfl, rfl⟩ := h; exact k) hls hlo hc hs
theorem k2_60 {x0 : Int32} (C : Con tables_1 l Z b y3 method_3_code 1 (some .int) R3 [.int x0] H K') (k : ∀ v H', K' v H' → G2 l Z b K 63 ls (v.toList ++ rest) H' (cN + 0) (sN + 0)) (hls : ls.length = 4 := by rfl) (hlo : wt rest + (1 + 11) + R3.locals ≤ R2.locals := by exact Nat.le_of_ble_eq_true rfl) (hc : cN + R3.cells ≤ R2.cells := by exact Nat.le_of_ble_eq_true rfl) (hs : sN + R3.slots ≤ R2.slots := by exact Nat.le_of_ble_eq_true rfl) : G2 l Z b K 60 ls (.int x0 :: rest) H cN sN := G.callS (List.mem_of_getElem? (i := 10) rfl) (List.mem_of_getElem? (i := 11) rfl) (List.mem_of_getElem? (i := 8) rfl) (List.mem_of_getElem? (i := 12) rfl) ⟨by decide, by decide⟩ pd3 C f2_60 rfl rfl hls (by decide) hlo hc hs k
theorem kf2_60 {x0 : Int32} {r : Value} {Hr : List Cel} (C : Con tables_1 l Z b y3 method_3_code 1 (some .int) R3 [.int x0] H (is (some r) Hr)) (k : G2 l Z b K 63 ls (r :: rest) Hr (cN + 0) (sN + 0)) (hls : ls.length = 4 := by rfl) (hlo : wt rest + (1 + 11) + R3.locals ≤ R2.locals := by exact Nat.le_of_ble_eq_true rfl) (hc : cN + R3.cells ≤ R2.cells := by exact Nat.le_of_ble_eq_true rfl) (hs : sN + R3.slots ≤ R2.slots := by exact Nat.le_of_ble_eq_true rfl) : G2 l Z b K 60 ls (.int x0 :: rest) H cN sN := k2_60 C (fun v H' h => by obtain ⟨rfl, rfl⟩ := h; exact k) hls hlo hc hs
theorem k2_92 {x0 : Int32} (C : Con tables_1 l Z b y3 method_3_code 1 (some .int) R3 [.int x0] H K') (k : ∀ v H', K' v H' → G2 l Z b K 95 ls (v.toList ++ rest) H' (cN + 0) (sN + 0)) (hls : ls.length = 4 := by rfl) (hlo : wt rest + (1 + 11) + R3.locals ≤ R2.locals := by exact Nat.le_of_ble_eq_true rfl) (hc : cN + R3.cells ≤ R2.cells := by exact Nat.le_of_ble_eq_true rfl) (hs : sN + R3.slots ≤ R2.slots := by exact Nat.le_of_ble_eq_true rfl) : G2 l Z b K 92 ls (.int x0 :: rest) H cN sN := G.callS (List.mem_of_getElem? (i := 10) rfl) (List.mem_of_getElem? (i := 11) rfl) (List.mem_of_getElem? (i := 8) rfl) (List.mem_of_getElem? (i := 12) rfl) ⟨by decide, by decide⟩ pd3 C f2_92 rfl rfl hls (by decide) hlo hc hs k
theorem kf2_92 {x0 : Int32} {r : Value} {Hr : List Cel} (C : Con tables_1 l Z b y3 method_3_code 1 (some .int) R3 [.int x0] H (is (some r) Hr)) (k : G2 l Z b K 95 ls (r :: rest) Hr (cN + 0) (sN + 0)) (hls : ls.length = 4 := by rfl) (hlo : wt rest + (1 + 11) + R3.locals ≤ R2.locals := by exact Nat.le_of_ble_eq_true rfl) (hc : cN + R3.cells ≤ R2.cells := by exact Nat.le_of_ble_eq_true rfl) (hs : sN + R3.slots ≤ R2.slots := by exact Nat.le_of_ble_eq_true rfl) : G2 l Z b K 92 ls (.int x0 :: rest) H cN sN := k2_92 C (fun v H' h => by obtain ⟨rfl, rfl⟩ := h; exact k) hls hlo hc hs
end Calls2
theorem room_c : room_1.cells = 16 := by decide
theorem room_s : room_1.slots = 128 := by decide
--STOP 0 113 187 221
--STOP 1 2
def sz (k : Int32) : Nat := if k = 0 then 1 else 2
def pie (k x : Int32) : List Int32 := if k = 0 then [if x = 0 then -128 else x] else if k = 1 then [0, -1] else if k = 2 then [0, 1] else [0, if x = 1 then 2 else if x = -1 then 2 else x]
def eo : List Int32 → Nat → Int32
  | x :: y :: rest, i => if x = 0 then (if y = 1 then Int32.ofNat i else if y = -1 then eo rest (i + 2) else -1) else eo (y :: rest) (i + 1)
  | [_], _ => -1
  | [], _ => -1
def exq : List Int32 → Nat → Int32
  | [], _ => -1
  | k :: ks, i => if k = 2 then Int32.ofNat i else if k = 3 then -1 else exq ks (i + sz k)
theorem set_at (pre t : List Int32) (x v : Int32) : (pre ++ x :: t).set pre.length v = pre ++ v :: t := by induction pre <;> simp [*]
theorem set_at2 (pre t : List Int32) (a x v : Int32) : (pre ++ a :: x :: t).set (pre.length + 1) v = pre ++ a :: v :: t := by induction pre <;> simp [*]
theorem pie_len (k x : Int32) : (pie k x).length = sz k := by unfold pie sz; repeat' split
                                                              all_goals first | rfl | contradiction
theorem eo_nz {x : Int32} (hx : ¬ x = 0) (rest : List Int32) (i : Nat) : eo (x :: rest) i = eo rest (i + 1) := by
  cases rest with
  | nil => rfl
  | cons y r => rw [eo, if_neg hx]
theorem eo_pie (k x : Int32) (hk : k = 0 ∨ k = 1 ∨ k = 2 ∨ k = 3) (rest : List Int32) (i : Nat) : eo (pie k x ++ rest) i = if k = 2 then Int32.ofNat i else if k = 3 then -1 else eo rest (i + sz k) := by
  rcases hk with rfl | rfl | rfl | rfl
  · by_cases q : x = 0
    · subst q; exact eo_nz (by decide) rest i
    · have : pie 0 x = [x] := by unfold pie; rw [if_pos rfl, if_neg q]
      rw [this]; exact eo_nz q rest i
  · rfl
  · rfl
  · have : ∃ z : Int32, pie 3 x = [0, z] ∧ ¬ z = 1 ∧ ¬ z = -1 := by
      unfold pie
      rw [if_neg (by decide), if_neg (by decide), if_neg (by decide)]
      by_cases q1 : x = 1
      · exact ⟨2, by rw [if_pos q1], by decide, by decide⟩
      · by_cases q2 : x = -1
        · exact ⟨2, by rw [if_neg q1, if_pos q2], by decide, by decide⟩
        · exact ⟨x, by rw [if_neg q1, if_neg q2], q1, q2⟩
    obtain ⟨z, e, h1, h2⟩ := this
    rw [e]
    show eo (0 :: z :: rest) i = _
    rw [eo, if_pos rfl, if_neg h1, if_neg h2]; rfl
theorem nm1 : nar .byte (-1) = -1 := by decide
theorem nm128 : nar .byte (-128) = -128 := by decide
theorem n0 : nar .byte 0 = 0 := by decide
theorem n1 : nar .byte 1 = 1 := by decide
theorem n2 : nar .byte 2 = 2 := by decide
section Own
variable {l : Launch} {Z : State} {b : Heap} {H : List Cel}
theorem con3 (k : Int32) : Con tables_1 l Z b y3 method_3_code 1 (some .int) R3 [.int k] H (is (some (.int (Int32.ofNat (sz k)))) H) := by
  refine c3 _ (r3 40 ?_)
  by_cases h : k = 0 <;> simp only [↓S3, ↓B0, ↓idx_c, ↓setN_c, ↓idxN_c, ↓repN_c, ↓reduceIte, B1, List.length_cons, List.length_nil, List.mem_cons, List.not_mem_nil, or_false, true_or, or_true, true_and, and_true, and_self, not_true_eq_false, not_false_eq_true, eq_self, ne_eq, Nat.zero_le, Nat.le_refl, Nat.reduceAdd, Nat.reduceSub, Nat.reduceEqDiff, Nat.reduceLeDiff, Int32.reduceLT, Int32.reduceLE, Int32.reduceAdd, Int32.reduceSub, Int32.reduceMul, Int32.reduceToNatClampNeg, Int32.reduceOfNat, Int32.reduceOfInt, Int64.reduceLT, Int64.reduceAdd, Int64.reduceSub, Int64.reduceMul, String.reduceEq, reduceCtorEq, room_c, room_s, h, sz] <;> exact is_self
theorem con4 (k0 k1 : Cel) (pre : List Int32) (m : Nat) (k x : Int32) (hx : nar .byte x = x) (hk : k = 0 ∨ k = 1 ∨ k = 2 ∨ k = 3) (hm : sz k ≤ m) (hl : pre.length < 1000) :
    Con tables_1 l Z b y4 method_4_code 4 (some .int) R4 [.ref (ad b.size 2), .int (Int32.ofNat pre.length), .int k, .int x] [k0, k1, .inl (.byte, ivs (pre ++ List.replicate m 0))]
      (is (some (.int (Int32.ofNat (pre ++ pie k x).length))) [k0, k1, .inl (.byte, ivs ((pre ++ pie k x) ++ List.replicate (m - sz k) 0))]) := by
  have g0 : pre.length < 2147483648 := by omega
  have g1 : pre.length + 1 < 2147483648 := by omega
  refine c4 _ _ _ _ (r4 80 ?_)
  by_cases q : k = 0
  · subst q
    obtain ⟨m, rfl⟩ : ∃ m', m = m' + 1 := ⟨m - 1, by have : sz 0 = 1 := rfl; omega⟩
    have e1 : ∀ v, pie 0 v = [if v = 0 then -128 else v] := fun v => rfl
    have e2 : m + 1 - sz 0 = m := rfl
    have g2 : pre.length < (pre ++ 0 :: List.replicate m (0 : Int32)).length := by simp
    rw [List.replicate_succ, e1, e2]
    by_cases q : x = 0
    · subst q
      simp only [↓S4, ↓B0, ↓idxN_c, ↓repN_c, ↓reduceIte, B1, List.mem_cons, List.not_mem_nil, or_false, true_or, or_true, true_and, and_true, and_self, not_true_eq_false, not_false_eq_true, eq_self, ne_eq, Nat.zero_le, Nat.le_refl, Nat.reduceAdd, Nat.reduceSub, Nat.reduceEqDiff, Nat.reduceLeDiff, Int32.reduceLT, Int32.reduceLE, Int32.reduceAdd, Int32.reduceSub, Int32.reduceMul, Int32.reduceToNatClampNeg, Int32.reduceOfNat, Int32.reduceOfInt, Int64.reduceLT, Int64.reduceAdd, Int64.reduceSub, Int64.reduceMul, String.reduceEq, reduceCtorEq, room_c, room_s, ↓idx_iv g0 g2, ↓setN_d, onat_nat g0, onat_succ, nm128, ivs_set, set_at]
      rw [show (pre ++ ([-128] : List Int32)).length = pre.length + 1 by simp, List.append_assoc]
      exact is_self
    · simp only [↓S4, ↓B0, ↓idxN_c, ↓repN_c, ↓reduceIte, B1, List.mem_cons, List.not_mem_nil, or_false, true_or, or_true, true_and, and_true, and_self, not_true_eq_false, not_false_eq_true, eq_self, ne_eq, Nat.zero_le, Nat.le_refl, Nat.reduceAdd, Nat.reduceSub, Nat.reduceEqDiff, Nat.reduceLeDiff, Int32.reduceLT, Int32.reduceLE, Int32.reduceAdd, Int32.reduceSub, Int32.reduceMul, Int32.reduceToNatClampNeg, Int32.reduceOfNat, Int32.reduceOfInt, Int64.reduceLT, Int64.reduceAdd, Int64.reduceSub, Int64.reduceMul, String.reduceEq, reduceCtorEq, room_c, room_s, q, ↓idx_iv g0 g2, ↓setN_d, onat_nat g0, onat_succ, hx, ivs_set, set_at]
      rw [show (pre ++ [x]).length = pre.length + 1 by simp, List.append_assoc]
      exact is_self
  · have es : sz k = 2 := if_neg q
    obtain ⟨m, rfl⟩ : ∃ m', m = m' + 2 := ⟨m - 2, by omega⟩
    have e2 : m + 2 - sz k = m := by omega
    have g2 : pre.length < (pre ++ 0 :: 0 :: List.replicate m (0 : Int32)).length := by simp
    have g3 : pre.length + 1 < (pre ++ 0 :: 0 :: List.replicate m (0 : Int32)).length := by simp
    rw [List.replicate_succ, List.replicate_succ, e2]
    have fin : ∀ z : Int32, pie k x = [0, z] → is (some (.int (Int32.ofNat (pre ++ pie k x).length))) [k0, k1, .inl (.byte, ivs ((pre ++ pie k x) ++ List.replicate m 0))] (some (.int (Int32.ofNat (pre.length + 2)))) [k0, k1, .inl (.byte, ivs (pre ++ 0 :: z :: List.replicate m 0))] := fun z hz => by
      rw [hz, show (pre ++ [0, z]).length = pre.length + 2 by simp, List.append_assoc]
      exact is_self
    rcases hk with h | rfl | rfl | rfl
    · exact absurd h q
    · simp only [↓S4, ↓B0, ↓idxN_c, ↓repN_c, ↓reduceIte, B1, List.mem_cons, List.not_mem_nil, or_false, true_or, or_true, true_and, and_true, and_self, not_true_eq_false, not_false_eq_true, eq_self, ne_eq, Nat.zero_le, Nat.le_refl, Nat.reduceAdd, Nat.reduceSub, Nat.reduceEqDiff, Nat.reduceLeDiff, Int32.reduceLT, Int32.reduceLE, Int32.reduceAdd, Int32.reduceSub, Int32.reduceMul, Int32.reduceToNatClampNeg, Int32.reduceOfNat, Int32.reduceOfInt, Int64.reduceLT, Int64.reduceAdd, Int64.reduceSub, Int64.reduceMul, String.reduceEq, reduceCtorEq, room_c, room_s, ↓idx_iv g0 g2, ↓setN_d, onat_nat g0, onat_succ, onat_2, onat_nat g1, n0, nm1, ivs_set, set_at, set_at2, ↓idx_iv g1 g3]
      exact fin _ rfl
    · simp only [↓S4, ↓B0, ↓idxN_c, ↓repN_c, ↓reduceIte, B1, List.mem_cons, List.not_mem_nil, or_false, true_or, or_true, true_and, and_true, and_self, not_true_eq_false, not_false_eq_true, eq_self, ne_eq, Nat.zero_le, Nat.le_refl, Nat.reduceAdd, Nat.reduceSub, Nat.reduceEqDiff, Nat.reduceLeDiff, Int32.reduceLT, Int32.reduceLE, Int32.reduceAdd, Int32.reduceSub, Int32.reduceMul, Int32.reduceToNatClampNeg, Int32.reduceOfNat, Int32.reduceOfInt, Int64.reduceLT, Int64.reduceAdd, Int64.reduceSub, Int64.reduceMul, String.reduceEq, reduceCtorEq, room_c, room_s, ↓idx_iv g0 g2, ↓setN_d, onat_nat g0, onat_succ, onat_2, onat_nat g1, n0, n1, ivs_set, set_at, set_at2, ↓idx_iv g1 g3]
      exact fin _ rfl
    · by_cases q1 : x = 1
      · subst q1
        simp only [↓S4, ↓B0, ↓idxN_c, ↓repN_c, ↓reduceIte, B1, List.mem_cons, List.not_mem_nil, or_false, true_or, or_true, true_and, and_true, and_self, not_true_eq_false, not_false_eq_true, eq_self, ne_eq, Nat.zero_le, Nat.le_refl, Nat.reduceAdd, Nat.reduceSub, Nat.reduceEqDiff, Nat.reduceLeDiff, Int32.reduceLT, Int32.reduceLE, Int32.reduceAdd, Int32.reduceSub, Int32.reduceMul, Int32.reduceToNatClampNeg, Int32.reduceOfNat, Int32.reduceOfInt, Int64.reduceLT, Int64.reduceAdd, Int64.reduceSub, Int64.reduceMul, String.reduceEq, reduceCtorEq, room_c, room_s, ↓idx_iv g0 g2, ↓setN_d, onat_nat g0, onat_succ, onat_2, onat_nat g1, n0, n2, ivs_set, set_at, set_at2, ↓idx_iv g1 g3]
        exact fin _ rfl
      · by_cases q2 : x = -1
        · subst q2
          simp only [↓S4, ↓B0, ↓idxN_c, ↓repN_c, ↓reduceIte, B1, List.mem_cons, List.not_mem_nil, or_false, true_or, or_true, true_and, and_true, and_self, not_true_eq_false, not_false_eq_true, eq_self, ne_eq, Nat.zero_le, Nat.le_refl, Nat.reduceAdd, Nat.reduceSub, Nat.reduceEqDiff, Nat.reduceLeDiff, Int32.reduceLT, Int32.reduceLE, Int32.reduceAdd, Int32.reduceSub, Int32.reduceMul, Int32.reduceToNatClampNeg, Int32.reduceOfNat, Int32.reduceOfInt, Int64.reduceLT, Int64.reduceAdd, Int64.reduceSub, Int64.reduceMul, String.reduceEq, reduceCtorEq, room_c, room_s, ↓idx_iv g0 g2, ↓setN_d, onat_nat g0, onat_succ, onat_2, onat_nat g1, n0, n2, ivs_set, set_at, set_at2, ↓idx_iv g1 g3]
          exact fin _ rfl
        · simp only [↓S4, ↓B0, ↓idxN_c, ↓repN_c, ↓reduceIte, B1, List.mem_cons, List.not_mem_nil, or_false, true_or, or_true, true_and, and_true, and_self, not_true_eq_false, not_false_eq_true, eq_self, ne_eq, Nat.zero_le, Nat.le_refl, Nat.reduceAdd, Nat.reduceSub, Nat.reduceEqDiff, Nat.reduceLeDiff, Int32.reduceLT, Int32.reduceLE, Int32.reduceAdd, Int32.reduceSub, Int32.reduceMul, Int32.reduceToNatClampNeg, Int32.reduceOfNat, Int32.reduceOfInt, Int64.reduceLT, Int64.reduceAdd, Int64.reduceSub, Int64.reduceMul, String.reduceEq, reduceCtorEq, room_c, room_s, q1, q2, ↓idx_iv g0 g2, ↓setN_d, onat_nat g0, onat_succ, onat_2, onat_nat g1, n0, hx, ivs_set, set_at, set_at2, ↓idx_iv g1 g3]
          refine fin x ?_
          unfold pie
          rw [if_neg (by decide), if_neg (by decide), if_neg (by decide), if_neg q1, if_neg q2]
theorem loop1 (k0 k1 : Cel) (p : Int32) (n : Nat) : ∀ (suf pre : List Int32) (hn : suf.length ≤ n) (hl : (pre ++ suf).length < 1000),
    G1 l Z b (is (some (.int (eo suf pre.length))) [k0, k1, .inl (.byte, ivs (pre ++ suf))]) 2 [.val (.ref (ad b.size 2)), .val (.int p), .val (.int (Int32.ofNat pre.length))] [] [k0, k1, .inl (.byte, ivs (pre ++ suf))] 0 0 := by
  induction n with
  | zero =>
    intro suf pre hn hl
    obtain rfl : suf = [] := List.length_eq_zero_iff.mp (by omega)
    rw [List.append_nil] at *
    have h1 : (Int32.ofNat pre.length + 1 < Int32.ofNat pre.length) = False := by rw [onat_succ, onat_lt (by omega) (by omega)]; simp
    refine e1_2 40 ?_
    simp only [↓S1, ↓B0, ↓idx_c, ↓setN_c, ↓idxN_c, ↓repN_c, ↓reduceIte, B1, List.length_cons, List.length_nil, List.mem_cons, List.not_mem_nil, or_false, true_or, or_true, true_and, and_true, and_self, not_true_eq_false, not_false_eq_true, eq_self, ne_eq, Nat.zero_le, Nat.le_refl, Nat.reduceAdd, Nat.reduceSub, Nat.reduceEqDiff, Nat.reduceLeDiff, Int32.reduceLT, Int32.reduceLE, Int32.reduceAdd, Int32.reduceSub, Int32.reduceMul, Int32.reduceToNatClampNeg, Int32.reduceOfNat, Int32.reduceOfInt, Int64.reduceLT, Int64.reduceAdd, Int64.reduceSub, Int64.reduceMul, String.reduceEq, reduceCtorEq, room_c, room_s, ivs_len, h1, eo]
    exact is_self
  | succ n ih =>
    intro suf pre hn hl
    match suf, hn with
    | [], _ =>
      rw [List.append_nil] at *
      have h1 : (Int32.ofNat pre.length + 1 < Int32.ofNat pre.length) = False := by rw [onat_succ, onat_lt (by omega) (by omega)]; simp
      refine e1_2 40 ?_
      simp only [↓S1, ↓B0, ↓idx_c, ↓setN_c, ↓idxN_c, ↓repN_c, ↓reduceIte, B1, List.length_cons, List.length_nil, List.mem_cons, List.not_mem_nil, or_false, true_or, or_true, true_and, and_true, and_self, not_true_eq_false, not_false_eq_true, eq_self, ne_eq, Nat.zero_le, Nat.le_refl, Nat.reduceAdd, Nat.reduceSub, Nat.reduceEqDiff, Nat.reduceLeDiff, Int32.reduceLT, Int32.reduceLE, Int32.reduceAdd, Int32.reduceSub, Int32.reduceMul, Int32.reduceToNatClampNeg, Int32.reduceOfNat, Int32.reduceOfInt, Int64.reduceLT, Int64.reduceAdd, Int64.reduceSub, Int64.reduceMul, String.reduceEq, reduceCtorEq, room_c, room_s, ivs_len, h1, eo]
      exact is_self
    | [x], _ =>
      have h1 : (Int32.ofNat pre.length + 1 < Int32.ofNat (pre ++ [x]).length) = False := by
        have : (pre ++ [x]).length = pre.length + 1 := by simp
        rw [onat_succ, onat_lt (by omega) (by omega), this]; simp
      refine e1_2 40 ?_
      simp only [↓S1, ↓B0, ↓idx_c, ↓setN_c, ↓idxN_c, ↓repN_c, ↓reduceIte, B1, List.length_cons, List.length_nil, List.mem_cons, List.not_mem_nil, or_false, true_or, or_true, true_and, and_true, and_self, not_true_eq_false, not_false_eq_true, eq_self, ne_eq, Nat.zero_le, Nat.le_refl, Nat.reduceAdd, Nat.reduceSub, Nat.reduceEqDiff, Nat.reduceLeDiff, Int32.reduceLT, Int32.reduceLE, Int32.reduceAdd, Int32.reduceSub, Int32.reduceMul, Int32.reduceToNatClampNeg, Int32.reduceOfNat, Int32.reduceOfInt, Int64.reduceLT, Int64.reduceAdd, Int64.reduceSub, Int64.reduceMul, String.reduceEq, reduceCtorEq, room_c, room_s, ivs_len, h1, eo]
      exact is_self
    | x :: y :: rest, hn =>
      have hlen : (pre ++ x :: y :: rest).length = pre.length + rest.length + 2 := by simp; omega
      have h1 : (Int32.ofNat pre.length + 1 < Int32.ofNat (pre ++ x :: y :: rest).length) = True := by
        rw [onat_succ, onat_lt (by omega) (by omega), hlen]; exact eq_true (by omega)
      have h3 : pre.length < 2147483648 := by omega
      have hy : ∀ {f : Value → Prop}, idx (ivs (pre ++ x :: y :: rest)) (Int32.ofNat pre.length + 1) f = f (.int y) := fun {f} => by
        rw [onat_succ]
        exact idx_lt (by omega) (by simp [ivs])
      refine e1_2 60 ?_
      by_cases q : x = 0
      · subst q
        by_cases q1 : y = 1
        · subst q1
          simp only [↓S1, ↓B0, ↓setN_c, ↓idxN_c, ↓repN_c, ↓reduceIte, B1, List.length_nil, List.mem_cons, List.not_mem_nil, or_false, true_or, or_true, true_and, and_true, and_self, not_true_eq_false, not_false_eq_true, eq_self, ne_eq, Nat.zero_le, Nat.le_refl, Nat.reduceAdd, Nat.reduceSub, Nat.reduceEqDiff, Nat.reduceLeDiff, Int32.reduceLT, Int32.reduceLE, Int32.reduceAdd, Int32.reduceSub, Int32.reduceMul, Int32.reduceToNatClampNeg, Int32.reduceOfNat, Int32.reduceOfInt, Int64.reduceLT, Int64.reduceAdd, Int64.reduceSub, Int64.reduceMul, String.reduceEq, reduceCtorEq, room_c, room_s, ivs_len, h1, ↓idx_at h3, ↓hy, eo]
          exact is_self
        · by_cases q2 : y = -1
          · subst q2
            have e1 : pre ++ 0 :: -1 :: rest = (pre ++ [0, -1]) ++ rest := by simp
            have e2 : Int32.ofNat pre.length + 1 + 1 = Int32.ofNat (pre ++ [0, -1]).length := by rw [onat_succ, onat_succ, show (pre ++ ([0, -1] : List Int32)).length = pre.length + 1 + 1 by simp]
            have e3 : pre.length + 2 = (pre ++ [0, -1]).length := by simp
            have key := ih rest (pre ++ [0, -1]) (by simp at hn; omega) (by rw [← e1]; exact hl)
            rw [← e1, ← e2, ← e3] at key
            simp only [↓S1, ↓B0, ↓setN_c, ↓idxN_c, ↓repN_c, ↓reduceIte, B1, List.length_nil, List.mem_cons, List.not_mem_nil, or_false, true_or, or_true, true_and, and_true, and_self, not_true_eq_false, not_false_eq_true, eq_self, ne_eq, Nat.zero_le, Nat.le_refl, Nat.reduceAdd, Nat.reduceSub, Nat.reduceEqDiff, Nat.reduceLeDiff, Int32.reduceLT, Int32.reduceLE, Int32.reduceAdd, Int32.reduceSub, Int32.reduceMul, Int32.reduceToNatClampNeg, Int32.reduceOfNat, Int32.reduceOfInt, Int64.reduceLT, Int64.reduceAdd, Int64.reduceSub, Int64.reduceMul, String.reduceEq, reduceCtorEq, room_c, room_s, ivs_len, h1, ↓idx_at h3, ↓hy, eo]
            exact key
          · simp only [↓S1, ↓B0, ↓setN_c, ↓idxN_c, ↓repN_c, ↓reduceIte, B1, List.length_nil, List.mem_cons, List.not_mem_nil, or_false, true_or, or_true, true_and, and_true, and_self, not_true_eq_false, not_false_eq_true, eq_self, ne_eq, Nat.zero_le, Nat.le_refl, Nat.reduceAdd, Nat.reduceSub, Nat.reduceEqDiff, Nat.reduceLeDiff, Int32.reduceLT, Int32.reduceLE, Int32.reduceAdd, Int32.reduceSub, Int32.reduceMul, Int32.reduceToNatClampNeg, Int32.reduceOfNat, Int32.reduceOfInt, Int64.reduceLT, Int64.reduceAdd, Int64.reduceSub, Int64.reduceMul, String.reduceEq, reduceCtorEq, room_c, room_s, ivs_len, h1, ↓idx_at h3, ↓hy, q1, q2, eo]
            exact is_self
      · have e1 : pre ++ x :: y :: rest = (pre ++ [x]) ++ y :: rest := by simp
        have e2 : Int32.ofNat pre.length + 1 = Int32.ofNat (pre ++ [x]).length := by rw [onat_succ]; simp
        have e3 : pre.length + 1 = (pre ++ [x]).length := by simp
        have key := ih (y :: rest) (pre ++ [x]) (by simp at hn ⊢; omega) (by rw [← e1]; exact hl)
        rw [← e1, ← e2, ← e3] at key
        simp only [↓S1, ↓B0, ↓setN_c, ↓idxN_c, ↓repN_c, ↓reduceIte, B1, List.length_nil, List.mem_cons, List.not_mem_nil, or_false, true_or, or_true, true_and, and_true, and_self, not_true_eq_false, not_false_eq_true, eq_self, ne_eq, Nat.zero_le, Nat.le_refl, Nat.reduceAdd, Nat.reduceSub, Nat.reduceEqDiff, Nat.reduceLeDiff, Int32.reduceLT, Int32.reduceLE, Int32.reduceAdd, Int32.reduceSub, Int32.reduceMul, Int32.reduceToNatClampNeg, Int32.reduceOfNat, Int32.reduceOfInt, Int64.reduceLT, Int64.reduceAdd, Int64.reduceSub, Int64.reduceMul, String.reduceEq, reduceCtorEq, room_c, room_s, ivs_len, h1, ↓idx_at h3, ↓hy, q, eo]
        exact key
theorem con1 (k0 k1 : Cel) (pre suf : List Int32) (hl : (pre ++ suf).length < 1000) : Con tables_1 l Z b y1 prog_19_method_4_code 3 (some .int) R1 [.ref (ad b.size 2), .int (Int32.ofNat pre.length)] [k0, k1, .inl (.byte, ivs (pre ++ suf))] (is (some (.int (eo suf pre.length))) [k0, k1, .inl (.byte, ivs (pre ++ suf))]) := by
  refine c1 _ _ (r1 40 ?_)
  simp only [↓S1, ↓B0, ↓idx_c, ↓setN_c, ↓idxN_c, ↓repN_c, ↓reduceIte, B1, List.length_cons, List.length_nil, List.mem_cons, List.not_mem_nil, or_false, true_or, or_true, true_and, and_true, and_self, not_true_eq_false, not_false_eq_true, eq_self, ne_eq, Nat.zero_le, Nat.le_refl, Nat.reduceAdd, Nat.reduceSub, Nat.reduceEqDiff, Nat.reduceLeDiff, Int32.reduceLT, Int32.reduceLE, Int32.reduceAdd, Int32.reduceSub, Int32.reduceMul, Int32.reduceToNatClampNeg, Int32.reduceOfNat, Int32.reduceOfInt, Int64.reduceLT, Int64.reduceAdd, Int64.reduceSub, Int64.reduceMul, String.reduceEq, reduceCtorEq, room_c, room_s]
  exact loop1 k0 k1 _ suf.length suf pre (Nat.le_refl _) hl
theorem con2_0 (k1 k2 : Cel) (a0 a1 a2 a3 : Int32) (P : Nat) : Con tables_1 l Z b y2 method_5_code 4 (some .int) R2 [.ref (ad b.size 0), .int 0, .int (Int32.ofNat P)] [.inl (.int, [.int a0, .int a1, .int a2, .int a3]), k1, k2] (is (some (.int (exq [] P))) [.inl (.int, [.int a0, .int a1, .int a2, .int a3]), k1, k2]) := by
  refine c2 _ _ _ (r2 200 ?_)
  simp only [↓S2, ↓B0, ↓idx_c, ↓setN_c, ↓idxN_c, ↓repN_c, ↓reduceIte, B1, List.length_cons, List.length_nil, List.mem_cons, List.not_mem_nil, or_false, true_or, or_true, true_and, and_true, and_self, not_true_eq_false, not_false_eq_true, eq_self, ne_eq, Nat.zero_le, Nat.le_refl, Nat.reduceAdd, Nat.reduceSub, Nat.reduceEqDiff, Nat.reduceLeDiff, Int32.reduceLT, Int32.reduceLE, Int32.reduceAdd, Int32.reduceSub, Int32.reduceMul, Int32.reduceToNatClampNeg, Int32.reduceOfNat, Int32.reduceOfInt, Int64.reduceLT, Int64.reduceAdd, Int64.reduceSub, Int64.reduceMul, String.reduceEq, reduceCtorEq, room_c, room_s, exq, onat_add]
  exact is_self
theorem con2_1 (k1 k2 : Cel) (a0 a1 a2 a3 : Int32) (P : Nat) : Con tables_1 l Z b y2 method_5_code 4 (some .int) R2 [.ref (ad b.size 0), .int 1, .int (Int32.ofNat P)] [.inl (.int, [.int a0, .int a1, .int a2, .int a3]), k1, k2] (is (some (.int (exq [a0] P))) [.inl (.int, [.int a0, .int a1, .int a2, .int a3]), k1, k2]) := by
  refine c2 _ _ _ (r2 200 ?_)
  by_cases q0 : a0 = 2
  · subst q0; simp only [↓S2, ↓B0, ↓idx_c, ↓setN_c, ↓idxN_c, ↓repN_c, ↓reduceIte, B1, List.length_cons, List.length_nil, List.mem_cons, List.not_mem_nil, or_false, true_or, or_true, true_and, and_true, and_self, not_true_eq_false, not_false_eq_true, eq_self, ne_eq, Nat.zero_le, Nat.le_refl, Nat.reduceAdd, Nat.reduceSub, Nat.reduceEqDiff, Nat.reduceLeDiff, Int32.reduceLT, Int32.reduceLE, Int32.reduceAdd, Int32.reduceSub, Int32.reduceMul, Int32.reduceToNatClampNeg, Int32.reduceOfNat, Int32.reduceOfInt, Int64.reduceLT, Int64.reduceAdd, Int64.reduceSub, Int64.reduceMul, String.reduceEq, reduceCtorEq, room_c, room_s, exq, onat_add]; exact is_self
  by_cases t0 : a0 = 3
  · subst t0; simp only [↓S2, ↓B0, ↓idx_c, ↓setN_c, ↓idxN_c, ↓repN_c, ↓reduceIte, B1, List.length_cons, List.length_nil, List.mem_cons, List.not_mem_nil, or_false, true_or, or_true, true_and, and_true, and_self, not_true_eq_false, not_false_eq_true, eq_self, ne_eq, Nat.zero_le, Nat.le_refl, Nat.reduceAdd, Nat.reduceSub, Nat.reduceEqDiff, Nat.reduceLeDiff, Int32.reduceLT, Int32.reduceLE, Int32.reduceAdd, Int32.reduceSub, Int32.reduceMul, Int32.reduceToNatClampNeg, Int32.reduceOfNat, Int32.reduceOfInt, Int64.reduceLT, Int64.reduceAdd, Int64.reduceSub, Int64.reduceMul, String.reduceEq, reduceCtorEq, room_c, room_s, exq, onat_add]; exact is_self
  simp only [↓S2, ↓B0, ↓idx_c, ↓setN_c, ↓idxN_c, ↓repN_c, ↓reduceIte, B1, List.length_cons, List.length_nil, List.mem_cons, List.not_mem_nil, or_false, true_or, or_true, true_and, and_true, and_self, not_true_eq_false, not_false_eq_true, eq_self, ne_eq, Nat.zero_le, Nat.le_refl, Nat.reduceAdd, Nat.reduceSub, Nat.reduceEqDiff, Nat.reduceLeDiff, Int32.reduceLT, Int32.reduceLE, Int32.reduceAdd, Int32.reduceSub, Int32.reduceMul, Int32.reduceToNatClampNeg, Int32.reduceOfNat, Int32.reduceOfInt, Int64.reduceLT, Int64.reduceAdd, Int64.reduceSub, Int64.reduceMul, String.reduceEq, reduceCtorEq, room_c, room_s, exq, q0, t0, onat_add]
  refine kf2_28 (con3 _) (r2 200 ?_)
  simp only [↓S2, ↓B0, ↓idx_c, ↓setN_c, ↓idxN_c, ↓repN_c, ↓reduceIte, B1, List.length_cons, List.length_nil, List.mem_cons, List.not_mem_nil, or_false, true_or, or_true, true_and, and_true, and_self, not_true_eq_false, not_false_eq_true, eq_self, ne_eq, Nat.zero_le, Nat.le_refl, Nat.reduceAdd, Nat.reduceSub, Nat.reduceEqDiff, Nat.reduceLeDiff, Int32.reduceLT, Int32.reduceLE, Int32.reduceAdd, Int32.reduceSub, Int32.reduceMul, Int32.reduceToNatClampNeg, Int32.reduceOfNat, Int32.reduceOfInt, Int64.reduceLT, Int64.reduceAdd, Int64.reduceSub, Int64.reduceMul, String.reduceEq, reduceCtorEq, room_c, room_s, exq, q0, t0, onat_add]
  exact is_self
theorem con2_2 (k1 k2 : Cel) (a0 a1 a2 a3 : Int32) (P : Nat) : Con tables_1 l Z b y2 method_5_code 4 (some .int) R2 [.ref (ad b.size 0), .int 2, .int (Int32.ofNat P)] [.inl (.int, [.int a0, .int a1, .int a2, .int a3]), k1, k2] (is (some (.int (exq [a0, a1] P))) [.inl (.int, [.int a0, .int a1, .int a2, .int a3]), k1, k2]) := by
  refine c2 _ _ _ (r2 200 ?_)
  by_cases q0 : a0 = 2
  · subst q0; simp only [↓S2, ↓B0, ↓idx_c, ↓setN_c, ↓idxN_c, ↓repN_c, ↓reduceIte, B1, List.length_cons, List.length_nil, List.mem_cons, List.not_mem_nil, or_false, true_or, or_true, true_and, and_true, and_self, not_true_eq_false, not_false_eq_true, eq_self, ne_eq, Nat.zero_le, Nat.le_refl, Nat.reduceAdd, Nat.reduceSub, Nat.reduceEqDiff, Nat.reduceLeDiff, Int32.reduceLT, Int32.reduceLE, Int32.reduceAdd, Int32.reduceSub, Int32.reduceMul, Int32.reduceToNatClampNeg, Int32.reduceOfNat, Int32.reduceOfInt, Int64.reduceLT, Int64.reduceAdd, Int64.reduceSub, Int64.reduceMul, String.reduceEq, reduceCtorEq, room_c, room_s, exq, onat_add]; exact is_self
  by_cases t0 : a0 = 3
  · subst t0; simp only [↓S2, ↓B0, ↓idx_c, ↓setN_c, ↓idxN_c, ↓repN_c, ↓reduceIte, B1, List.length_cons, List.length_nil, List.mem_cons, List.not_mem_nil, or_false, true_or, or_true, true_and, and_true, and_self, not_true_eq_false, not_false_eq_true, eq_self, ne_eq, Nat.zero_le, Nat.le_refl, Nat.reduceAdd, Nat.reduceSub, Nat.reduceEqDiff, Nat.reduceLeDiff, Int32.reduceLT, Int32.reduceLE, Int32.reduceAdd, Int32.reduceSub, Int32.reduceMul, Int32.reduceToNatClampNeg, Int32.reduceOfNat, Int32.reduceOfInt, Int64.reduceLT, Int64.reduceAdd, Int64.reduceSub, Int64.reduceMul, String.reduceEq, reduceCtorEq, room_c, room_s, exq, onat_add]; exact is_self
  simp only [↓S2, ↓B0, ↓idx_c, ↓setN_c, ↓idxN_c, ↓repN_c, ↓reduceIte, B1, List.length_cons, List.length_nil, List.mem_cons, List.not_mem_nil, or_false, true_or, or_true, true_and, and_true, and_self, not_true_eq_false, not_false_eq_true, eq_self, ne_eq, Nat.zero_le, Nat.le_refl, Nat.reduceAdd, Nat.reduceSub, Nat.reduceEqDiff, Nat.reduceLeDiff, Int32.reduceLT, Int32.reduceLE, Int32.reduceAdd, Int32.reduceSub, Int32.reduceMul, Int32.reduceToNatClampNeg, Int32.reduceOfNat, Int32.reduceOfInt, Int64.reduceLT, Int64.reduceAdd, Int64.reduceSub, Int64.reduceMul, String.reduceEq, reduceCtorEq, room_c, room_s, exq, q0, t0, onat_add]
  refine kf2_28 (con3 _) (r2 200 ?_)
  by_cases q1 : a1 = 2
  · subst q1; simp only [↓S2, ↓B0, ↓idx_c, ↓setN_c, ↓idxN_c, ↓repN_c, ↓reduceIte, B1, List.length_cons, List.length_nil, List.mem_cons, List.not_mem_nil, or_false, true_or, or_true, true_and, and_true, and_self, not_true_eq_false, not_false_eq_true, eq_self, ne_eq, Nat.zero_le, Nat.le_refl, Nat.reduceAdd, Nat.reduceSub, Nat.reduceEqDiff, Nat.reduceLeDiff, Int32.reduceLT, Int32.reduceLE, Int32.reduceAdd, Int32.reduceSub, Int32.reduceMul, Int32.reduceToNatClampNeg, Int32.reduceOfNat, Int32.reduceOfInt, Int64.reduceLT, Int64.reduceAdd, Int64.reduceSub, Int64.reduceMul, String.reduceEq, reduceCtorEq, room_c, room_s, exq, q0, t0, onat_add]; exact is_self
  by_cases t1 : a1 = 3
  · subst t1; simp only [↓S2, ↓B0, ↓idx_c, ↓setN_c, ↓idxN_c, ↓repN_c, ↓reduceIte, B1, List.length_cons, List.length_nil, List.mem_cons, List.not_mem_nil, or_false, true_or, or_true, true_and, and_true, and_self, not_true_eq_false, not_false_eq_true, eq_self, ne_eq, Nat.zero_le, Nat.le_refl, Nat.reduceAdd, Nat.reduceSub, Nat.reduceEqDiff, Nat.reduceLeDiff, Int32.reduceLT, Int32.reduceLE, Int32.reduceAdd, Int32.reduceSub, Int32.reduceMul, Int32.reduceToNatClampNeg, Int32.reduceOfNat, Int32.reduceOfInt, Int64.reduceLT, Int64.reduceAdd, Int64.reduceSub, Int64.reduceMul, String.reduceEq, reduceCtorEq, room_c, room_s, exq, q0, t0, onat_add]; exact is_self
  simp only [↓S2, ↓B0, ↓idx_c, ↓setN_c, ↓idxN_c, ↓repN_c, ↓reduceIte, B1, List.length_cons, List.length_nil, List.mem_cons, List.not_mem_nil, or_false, true_or, or_true, true_and, and_true, and_self, not_true_eq_false, not_false_eq_true, eq_self, ne_eq, Nat.zero_le, Nat.le_refl, Nat.reduceAdd, Nat.reduceSub, Nat.reduceEqDiff, Nat.reduceLeDiff, Int32.reduceLT, Int32.reduceLE, Int32.reduceAdd, Int32.reduceSub, Int32.reduceMul, Int32.reduceToNatClampNeg, Int32.reduceOfNat, Int32.reduceOfInt, Int64.reduceLT, Int64.reduceAdd, Int64.reduceSub, Int64.reduceMul, String.reduceEq, reduceCtorEq, room_c, room_s, exq, q0, t0, q1, t1, onat_add]
  refine kf2_60 (con3 _) (r2 200 ?_)
  simp only [↓S2, ↓B0, ↓idx_c, ↓setN_c, ↓idxN_c, ↓repN_c, ↓reduceIte, B1, List.length_cons, List.length_nil, List.mem_cons, List.not_mem_nil, or_false, true_or, or_true, true_and, and_true, and_self, not_true_eq_false, not_false_eq_true, eq_self, ne_eq, Nat.zero_le, Nat.le_refl, Nat.reduceAdd, Nat.reduceSub, Nat.reduceEqDiff, Nat.reduceLeDiff, Int32.reduceLT, Int32.reduceLE, Int32.reduceAdd, Int32.reduceSub, Int32.reduceMul, Int32.reduceToNatClampNeg, Int32.reduceOfNat, Int32.reduceOfInt, Int64.reduceLT, Int64.reduceAdd, Int64.reduceSub, Int64.reduceMul, String.reduceEq, reduceCtorEq, room_c, room_s, exq, q0, t0, q1, t1, onat_add]
  exact is_self
theorem con2_3 (k1 k2 : Cel) (a0 a1 a2 a3 : Int32) (P : Nat) : Con tables_1 l Z b y2 method_5_code 4 (some .int) R2 [.ref (ad b.size 0), .int 3, .int (Int32.ofNat P)] [.inl (.int, [.int a0, .int a1, .int a2, .int a3]), k1, k2] (is (some (.int (exq [a0, a1, a2] P))) [.inl (.int, [.int a0, .int a1, .int a2, .int a3]), k1, k2]) := by
  refine c2 _ _ _ (r2 200 ?_)
  by_cases q0 : a0 = 2
  · subst q0; simp only [↓S2, ↓B0, ↓idx_c, ↓setN_c, ↓idxN_c, ↓repN_c, ↓reduceIte, B1, List.length_cons, List.length_nil, List.mem_cons, List.not_mem_nil, or_false, true_or, or_true, true_and, and_true, and_self, not_true_eq_false, not_false_eq_true, eq_self, ne_eq, Nat.zero_le, Nat.le_refl, Nat.reduceAdd, Nat.reduceSub, Nat.reduceEqDiff, Nat.reduceLeDiff, Int32.reduceLT, Int32.reduceLE, Int32.reduceAdd, Int32.reduceSub, Int32.reduceMul, Int32.reduceToNatClampNeg, Int32.reduceOfNat, Int32.reduceOfInt, Int64.reduceLT, Int64.reduceAdd, Int64.reduceSub, Int64.reduceMul, String.reduceEq, reduceCtorEq, room_c, room_s, exq, onat_add]; exact is_self
  by_cases t0 : a0 = 3
  · subst t0; simp only [↓S2, ↓B0, ↓idx_c, ↓setN_c, ↓idxN_c, ↓repN_c, ↓reduceIte, B1, List.length_cons, List.length_nil, List.mem_cons, List.not_mem_nil, or_false, true_or, or_true, true_and, and_true, and_self, not_true_eq_false, not_false_eq_true, eq_self, ne_eq, Nat.zero_le, Nat.le_refl, Nat.reduceAdd, Nat.reduceSub, Nat.reduceEqDiff, Nat.reduceLeDiff, Int32.reduceLT, Int32.reduceLE, Int32.reduceAdd, Int32.reduceSub, Int32.reduceMul, Int32.reduceToNatClampNeg, Int32.reduceOfNat, Int32.reduceOfInt, Int64.reduceLT, Int64.reduceAdd, Int64.reduceSub, Int64.reduceMul, String.reduceEq, reduceCtorEq, room_c, room_s, exq, onat_add]; exact is_self
  simp only [↓S2, ↓B0, ↓idx_c, ↓setN_c, ↓idxN_c, ↓repN_c, ↓reduceIte, B1, List.length_cons, List.length_nil, List.mem_cons, List.not_mem_nil, or_false, true_or, or_true, true_and, and_true, and_self, not_true_eq_false, not_false_eq_true, eq_self, ne_eq, Nat.zero_le, Nat.le_refl, Nat.reduceAdd, Nat.reduceSub, Nat.reduceEqDiff, Nat.reduceLeDiff, Int32.reduceLT, Int32.reduceLE, Int32.reduceAdd, Int32.reduceSub, Int32.reduceMul, Int32.reduceToNatClampNeg, Int32.reduceOfNat, Int32.reduceOfInt, Int64.reduceLT, Int64.reduceAdd, Int64.reduceSub, Int64.reduceMul, String.reduceEq, reduceCtorEq, room_c, room_s, exq, q0, t0, onat_add]
  refine kf2_28 (con3 _) (r2 200 ?_)
  by_cases q1 : a1 = 2
  · subst q1; simp only [↓S2, ↓B0, ↓idx_c, ↓setN_c, ↓idxN_c, ↓repN_c, ↓reduceIte, B1, List.length_cons, List.length_nil, List.mem_cons, List.not_mem_nil, or_false, true_or, or_true, true_and, and_true, and_self, not_true_eq_false, not_false_eq_true, eq_self, ne_eq, Nat.zero_le, Nat.le_refl, Nat.reduceAdd, Nat.reduceSub, Nat.reduceEqDiff, Nat.reduceLeDiff, Int32.reduceLT, Int32.reduceLE, Int32.reduceAdd, Int32.reduceSub, Int32.reduceMul, Int32.reduceToNatClampNeg, Int32.reduceOfNat, Int32.reduceOfInt, Int64.reduceLT, Int64.reduceAdd, Int64.reduceSub, Int64.reduceMul, String.reduceEq, reduceCtorEq, room_c, room_s, exq, q0, t0, onat_add]; exact is_self
  by_cases t1 : a1 = 3
  · subst t1; simp only [↓S2, ↓B0, ↓idx_c, ↓setN_c, ↓idxN_c, ↓repN_c, ↓reduceIte, B1, List.length_cons, List.length_nil, List.mem_cons, List.not_mem_nil, or_false, true_or, or_true, true_and, and_true, and_self, not_true_eq_false, not_false_eq_true, eq_self, ne_eq, Nat.zero_le, Nat.le_refl, Nat.reduceAdd, Nat.reduceSub, Nat.reduceEqDiff, Nat.reduceLeDiff, Int32.reduceLT, Int32.reduceLE, Int32.reduceAdd, Int32.reduceSub, Int32.reduceMul, Int32.reduceToNatClampNeg, Int32.reduceOfNat, Int32.reduceOfInt, Int64.reduceLT, Int64.reduceAdd, Int64.reduceSub, Int64.reduceMul, String.reduceEq, reduceCtorEq, room_c, room_s, exq, q0, t0, onat_add]; exact is_self
  simp only [↓S2, ↓B0, ↓idx_c, ↓setN_c, ↓idxN_c, ↓repN_c, ↓reduceIte, B1, List.length_cons, List.length_nil, List.mem_cons, List.not_mem_nil, or_false, true_or, or_true, true_and, and_true, and_self, not_true_eq_false, not_false_eq_true, eq_self, ne_eq, Nat.zero_le, Nat.le_refl, Nat.reduceAdd, Nat.reduceSub, Nat.reduceEqDiff, Nat.reduceLeDiff, Int32.reduceLT, Int32.reduceLE, Int32.reduceAdd, Int32.reduceSub, Int32.reduceMul, Int32.reduceToNatClampNeg, Int32.reduceOfNat, Int32.reduceOfInt, Int64.reduceLT, Int64.reduceAdd, Int64.reduceSub, Int64.reduceMul, String.reduceEq, reduceCtorEq, room_c, room_s, exq, q0, t0, q1, t1, onat_add]
  refine kf2_60 (con3 _) (r2 200 ?_)
  by_cases q2 : a2 = 2
  · subst q2; simp only [↓S2, ↓B0, ↓idx_c, ↓setN_c, ↓idxN_c, ↓repN_c, ↓reduceIte, B1, List.length_cons, List.length_nil, List.mem_cons, List.not_mem_nil, or_false, true_or, or_true, true_and, and_true, and_self, not_true_eq_false, not_false_eq_true, eq_self, ne_eq, Nat.zero_le, Nat.le_refl, Nat.reduceAdd, Nat.reduceSub, Nat.reduceEqDiff, Nat.reduceLeDiff, Int32.reduceLT, Int32.reduceLE, Int32.reduceAdd, Int32.reduceSub, Int32.reduceMul, Int32.reduceToNatClampNeg, Int32.reduceOfNat, Int32.reduceOfInt, Int64.reduceLT, Int64.reduceAdd, Int64.reduceSub, Int64.reduceMul, String.reduceEq, reduceCtorEq, room_c, room_s, exq, q0, t0, q1, t1, onat_add]; exact is_self
  by_cases t2 : a2 = 3
  · subst t2; simp only [↓S2, ↓B0, ↓idx_c, ↓setN_c, ↓idxN_c, ↓repN_c, ↓reduceIte, B1, List.length_cons, List.length_nil, List.mem_cons, List.not_mem_nil, or_false, true_or, or_true, true_and, and_true, and_self, not_true_eq_false, not_false_eq_true, eq_self, ne_eq, Nat.zero_le, Nat.le_refl, Nat.reduceAdd, Nat.reduceSub, Nat.reduceEqDiff, Nat.reduceLeDiff, Int32.reduceLT, Int32.reduceLE, Int32.reduceAdd, Int32.reduceSub, Int32.reduceMul, Int32.reduceToNatClampNeg, Int32.reduceOfNat, Int32.reduceOfInt, Int64.reduceLT, Int64.reduceAdd, Int64.reduceSub, Int64.reduceMul, String.reduceEq, reduceCtorEq, room_c, room_s, exq, q0, t0, q1, t1, onat_add]; exact is_self
  simp only [↓S2, ↓B0, ↓idx_c, ↓setN_c, ↓idxN_c, ↓repN_c, ↓reduceIte, B1, List.length_cons, List.length_nil, List.mem_cons, List.not_mem_nil, or_false, true_or, or_true, true_and, and_true, and_self, not_true_eq_false, not_false_eq_true, eq_self, ne_eq, Nat.zero_le, Nat.le_refl, Nat.reduceAdd, Nat.reduceSub, Nat.reduceEqDiff, Nat.reduceLeDiff, Int32.reduceLT, Int32.reduceLE, Int32.reduceAdd, Int32.reduceSub, Int32.reduceMul, Int32.reduceToNatClampNeg, Int32.reduceOfNat, Int32.reduceOfInt, Int64.reduceLT, Int64.reduceAdd, Int64.reduceSub, Int64.reduceMul, String.reduceEq, reduceCtorEq, room_c, room_s, exq, q0, t0, q1, t1, q2, t2, onat_add]
  refine kf2_92 (con3 _) (r2 200 ?_)
  simp only [↓S2, ↓B0, ↓idx_c, ↓setN_c, ↓idxN_c, ↓repN_c, ↓reduceIte, B1, List.length_cons, List.length_nil, List.mem_cons, List.not_mem_nil, or_false, true_or, or_true, true_and, and_true, and_self, not_true_eq_false, not_false_eq_true, eq_self, ne_eq, Nat.zero_le, Nat.le_refl, Nat.reduceAdd, Nat.reduceSub, Nat.reduceEqDiff, Nat.reduceLeDiff, Int32.reduceLT, Int32.reduceLE, Int32.reduceAdd, Int32.reduceSub, Int32.reduceMul, Int32.reduceToNatClampNeg, Int32.reduceOfNat, Int32.reduceOfInt, Int64.reduceLT, Int64.reduceAdd, Int64.reduceSub, Int64.reduceMul, String.reduceEq, reduceCtorEq, room_c, room_s, exq, q0, t0, q1, t1, q2, t2, onat_add]
  exact is_self
theorem con2_4 (k1 k2 : Cel) (a0 a1 a2 a3 : Int32) (P : Nat) : Con tables_1 l Z b y2 method_5_code 4 (some .int) R2 [.ref (ad b.size 0), .int 4, .int (Int32.ofNat P)] [.inl (.int, [.int a0, .int a1, .int a2, .int a3]), k1, k2] (is (some (.int (exq [a0, a1, a2, a3] P))) [.inl (.int, [.int a0, .int a1, .int a2, .int a3]), k1, k2]) := by
  refine c2 _ _ _ (r2 200 ?_)
  by_cases q0 : a0 = 2
  · subst q0; simp only [↓S2, ↓B0, ↓idx_c, ↓setN_c, ↓idxN_c, ↓repN_c, ↓reduceIte, B1, List.length_cons, List.length_nil, List.mem_cons, List.not_mem_nil, or_false, true_or, or_true, true_and, and_true, and_self, not_true_eq_false, not_false_eq_true, eq_self, ne_eq, Nat.zero_le, Nat.le_refl, Nat.reduceAdd, Nat.reduceSub, Nat.reduceEqDiff, Nat.reduceLeDiff, Int32.reduceLT, Int32.reduceLE, Int32.reduceAdd, Int32.reduceSub, Int32.reduceMul, Int32.reduceToNatClampNeg, Int32.reduceOfNat, Int32.reduceOfInt, Int64.reduceLT, Int64.reduceAdd, Int64.reduceSub, Int64.reduceMul, String.reduceEq, reduceCtorEq, room_c, room_s, exq, onat_add]; exact is_self
  by_cases t0 : a0 = 3
  · subst t0; simp only [↓S2, ↓B0, ↓idx_c, ↓setN_c, ↓idxN_c, ↓repN_c, ↓reduceIte, B1, List.length_cons, List.length_nil, List.mem_cons, List.not_mem_nil, or_false, true_or, or_true, true_and, and_true, and_self, not_true_eq_false, not_false_eq_true, eq_self, ne_eq, Nat.zero_le, Nat.le_refl, Nat.reduceAdd, Nat.reduceSub, Nat.reduceEqDiff, Nat.reduceLeDiff, Int32.reduceLT, Int32.reduceLE, Int32.reduceAdd, Int32.reduceSub, Int32.reduceMul, Int32.reduceToNatClampNeg, Int32.reduceOfNat, Int32.reduceOfInt, Int64.reduceLT, Int64.reduceAdd, Int64.reduceSub, Int64.reduceMul, String.reduceEq, reduceCtorEq, room_c, room_s, exq, onat_add]; exact is_self
  simp only [↓S2, ↓B0, ↓idx_c, ↓setN_c, ↓idxN_c, ↓repN_c, ↓reduceIte, B1, List.length_cons, List.length_nil, List.mem_cons, List.not_mem_nil, or_false, true_or, or_true, true_and, and_true, and_self, not_true_eq_false, not_false_eq_true, eq_self, ne_eq, Nat.zero_le, Nat.le_refl, Nat.reduceAdd, Nat.reduceSub, Nat.reduceEqDiff, Nat.reduceLeDiff, Int32.reduceLT, Int32.reduceLE, Int32.reduceAdd, Int32.reduceSub, Int32.reduceMul, Int32.reduceToNatClampNeg, Int32.reduceOfNat, Int32.reduceOfInt, Int64.reduceLT, Int64.reduceAdd, Int64.reduceSub, Int64.reduceMul, String.reduceEq, reduceCtorEq, room_c, room_s, exq, q0, t0, onat_add]
  refine kf2_28 (con3 _) (r2 200 ?_)
  by_cases q1 : a1 = 2
  · subst q1; simp only [↓S2, ↓B0, ↓idx_c, ↓setN_c, ↓idxN_c, ↓repN_c, ↓reduceIte, B1, List.length_cons, List.length_nil, List.mem_cons, List.not_mem_nil, or_false, true_or, or_true, true_and, and_true, and_self, not_true_eq_false, not_false_eq_true, eq_self, ne_eq, Nat.zero_le, Nat.le_refl, Nat.reduceAdd, Nat.reduceSub, Nat.reduceEqDiff, Nat.reduceLeDiff, Int32.reduceLT, Int32.reduceLE, Int32.reduceAdd, Int32.reduceSub, Int32.reduceMul, Int32.reduceToNatClampNeg, Int32.reduceOfNat, Int32.reduceOfInt, Int64.reduceLT, Int64.reduceAdd, Int64.reduceSub, Int64.reduceMul, String.reduceEq, reduceCtorEq, room_c, room_s, exq, q0, t0, onat_add]; exact is_self
  by_cases t1 : a1 = 3
  · subst t1; simp only [↓S2, ↓B0, ↓idx_c, ↓setN_c, ↓idxN_c, ↓repN_c, ↓reduceIte, B1, List.length_cons, List.length_nil, List.mem_cons, List.not_mem_nil, or_false, true_or, or_true, true_and, and_true, and_self, not_true_eq_false, not_false_eq_true, eq_self, ne_eq, Nat.zero_le, Nat.le_refl, Nat.reduceAdd, Nat.reduceSub, Nat.reduceEqDiff, Nat.reduceLeDiff, Int32.reduceLT, Int32.reduceLE, Int32.reduceAdd, Int32.reduceSub, Int32.reduceMul, Int32.reduceToNatClampNeg, Int32.reduceOfNat, Int32.reduceOfInt, Int64.reduceLT, Int64.reduceAdd, Int64.reduceSub, Int64.reduceMul, String.reduceEq, reduceCtorEq, room_c, room_s, exq, q0, t0, onat_add]; exact is_self
  simp only [↓S2, ↓B0, ↓idx_c, ↓setN_c, ↓idxN_c, ↓repN_c, ↓reduceIte, B1, List.length_cons, List.length_nil, List.mem_cons, List.not_mem_nil, or_false, true_or, or_true, true_and, and_true, and_self, not_true_eq_false, not_false_eq_true, eq_self, ne_eq, Nat.zero_le, Nat.le_refl, Nat.reduceAdd, Nat.reduceSub, Nat.reduceEqDiff, Nat.reduceLeDiff, Int32.reduceLT, Int32.reduceLE, Int32.reduceAdd, Int32.reduceSub, Int32.reduceMul, Int32.reduceToNatClampNeg, Int32.reduceOfNat, Int32.reduceOfInt, Int64.reduceLT, Int64.reduceAdd, Int64.reduceSub, Int64.reduceMul, String.reduceEq, reduceCtorEq, room_c, room_s, exq, q0, t0, q1, t1, onat_add]
  refine kf2_60 (con3 _) (r2 200 ?_)
  by_cases q2 : a2 = 2
  · subst q2; simp only [↓S2, ↓B0, ↓idx_c, ↓setN_c, ↓idxN_c, ↓repN_c, ↓reduceIte, B1, List.length_cons, List.length_nil, List.mem_cons, List.not_mem_nil, or_false, true_or, or_true, true_and, and_true, and_self, not_true_eq_false, not_false_eq_true, eq_self, ne_eq, Nat.zero_le, Nat.le_refl, Nat.reduceAdd, Nat.reduceSub, Nat.reduceEqDiff, Nat.reduceLeDiff, Int32.reduceLT, Int32.reduceLE, Int32.reduceAdd, Int32.reduceSub, Int32.reduceMul, Int32.reduceToNatClampNeg, Int32.reduceOfNat, Int32.reduceOfInt, Int64.reduceLT, Int64.reduceAdd, Int64.reduceSub, Int64.reduceMul, String.reduceEq, reduceCtorEq, room_c, room_s, exq, q0, t0, q1, t1, onat_add]; exact is_self
  by_cases t2 : a2 = 3
  · subst t2; simp only [↓S2, ↓B0, ↓idx_c, ↓setN_c, ↓idxN_c, ↓repN_c, ↓reduceIte, B1, List.length_cons, List.length_nil, List.mem_cons, List.not_mem_nil, or_false, true_or, or_true, true_and, and_true, and_self, not_true_eq_false, not_false_eq_true, eq_self, ne_eq, Nat.zero_le, Nat.le_refl, Nat.reduceAdd, Nat.reduceSub, Nat.reduceEqDiff, Nat.reduceLeDiff, Int32.reduceLT, Int32.reduceLE, Int32.reduceAdd, Int32.reduceSub, Int32.reduceMul, Int32.reduceToNatClampNeg, Int32.reduceOfNat, Int32.reduceOfInt, Int64.reduceLT, Int64.reduceAdd, Int64.reduceSub, Int64.reduceMul, String.reduceEq, reduceCtorEq, room_c, room_s, exq, q0, t0, q1, t1, onat_add]; exact is_self
  simp only [↓S2, ↓B0, ↓idx_c, ↓setN_c, ↓idxN_c, ↓repN_c, ↓reduceIte, B1, List.length_cons, List.length_nil, List.mem_cons, List.not_mem_nil, or_false, true_or, or_true, true_and, and_true, and_self, not_true_eq_false, not_false_eq_true, eq_self, ne_eq, Nat.zero_le, Nat.le_refl, Nat.reduceAdd, Nat.reduceSub, Nat.reduceEqDiff, Nat.reduceLeDiff, Int32.reduceLT, Int32.reduceLE, Int32.reduceAdd, Int32.reduceSub, Int32.reduceMul, Int32.reduceToNatClampNeg, Int32.reduceOfNat, Int32.reduceOfInt, Int64.reduceLT, Int64.reduceAdd, Int64.reduceSub, Int64.reduceMul, String.reduceEq, reduceCtorEq, room_c, room_s, exq, q0, t0, q1, t1, q2, t2, onat_add]
  refine kf2_92 (con3 _) (r2 200 ?_)
  by_cases q3 : a3 = 2
  · subst q3; simp only [↓S2, ↓B0, ↓idx_c, ↓setN_c, ↓idxN_c, ↓repN_c, ↓reduceIte, B1, List.length_cons, List.length_nil, List.mem_cons, List.not_mem_nil, or_false, true_or, or_true, true_and, and_true, and_self, not_true_eq_false, not_false_eq_true, eq_self, ne_eq, Nat.zero_le, Nat.le_refl, Nat.reduceAdd, Nat.reduceSub, Nat.reduceEqDiff, Nat.reduceLeDiff, Int32.reduceLT, Int32.reduceLE, Int32.reduceAdd, Int32.reduceSub, Int32.reduceMul, Int32.reduceToNatClampNeg, Int32.reduceOfNat, Int32.reduceOfInt, Int64.reduceLT, Int64.reduceAdd, Int64.reduceSub, Int64.reduceMul, String.reduceEq, reduceCtorEq, room_c, room_s, exq, q0, t0, q1, t1, q2, t2, onat_add]; exact is_self
  by_cases t3 : a3 = 3
  · subst t3; simp only [↓S2, ↓B0, ↓idx_c, ↓setN_c, ↓idxN_c, ↓repN_c, ↓reduceIte, B1, List.length_cons, List.length_nil, List.mem_cons, List.not_mem_nil, or_false, true_or, or_true, true_and, and_true, and_self, not_true_eq_false, not_false_eq_true, eq_self, ne_eq, Nat.zero_le, Nat.le_refl, Nat.reduceAdd, Nat.reduceSub, Nat.reduceEqDiff, Nat.reduceLeDiff, Int32.reduceLT, Int32.reduceLE, Int32.reduceAdd, Int32.reduceSub, Int32.reduceMul, Int32.reduceToNatClampNeg, Int32.reduceOfNat, Int32.reduceOfInt, Int64.reduceLT, Int64.reduceAdd, Int64.reduceSub, Int64.reduceMul, String.reduceEq, reduceCtorEq, room_c, room_s, exq, q0, t0, q1, t1, q2, t2, onat_add]; exact is_self
  simp only [↓S2, ↓B0, ↓idx_c, ↓setN_c, ↓idxN_c, ↓repN_c, ↓reduceIte, B1, List.length_cons, List.length_nil, List.mem_cons, List.not_mem_nil, or_false, true_or, or_true, true_and, and_true, and_self, not_true_eq_false, not_false_eq_true, eq_self, ne_eq, Nat.zero_le, Nat.le_refl, Nat.reduceAdd, Nat.reduceSub, Nat.reduceEqDiff, Nat.reduceLeDiff, Int32.reduceLT, Int32.reduceLE, Int32.reduceAdd, Int32.reduceSub, Int32.reduceMul, Int32.reduceToNatClampNeg, Int32.reduceOfNat, Int32.reduceOfInt, Int64.reduceLT, Int64.reduceAdd, Int64.reduceSub, Int64.reduceMul, String.reduceEq, reduceCtorEq, room_c, room_s, exq, q0, t0, q1, t1, q2, t2, q3, t3, onat_add]
  exact is_self
theorem sz_le (k : Int32) : sz k ≤ 2 := by unfold sz; split <;> omega
theorem st221_0_0 (i0 : Int32) (i1 : Int64) (n : Int32) (a0 a1 a2 a3 x0 x1 x2 x3 : Int32) (hx0 : nar .byte x0 = x0) (hx1 : nar .byte x1 = x1) (hx2 : nar .byte x2 = x2) (hx3 : nar .byte x3 = x3) (hk0 : a0 = 0 ∨ a0 = 1 ∨ a0 = 2 ∨ a0 = 3) (hk1 : a1 = 0 ∨ a1 = 1 ∨ a1 = 2 ∨ a1 = 3) (hk2 : a2 = 0 ∨ a2 = 1 ∨ a2 = 2 ∨ a2 = 3) (hk3 : a3 = 0 ∨ a3 = 1 ∨ a3 = 2 ∨ a3 = 3) (pre : List Int32) (hp : pre.length < 100) (s0 : Nat) (hs0 : s0 ≤ 128) :
    G0 l Z b (fun v _ => v = some (.int 1)) 221 [.val (.int i0), .val (.long i1), .second, .val (.int (0)), .val (.ref (ad b.size 0)), .val (.int (0)), .val (.int (Int32.ofNat pre.length)), .val (.ref (ad b.size 1)), .val (.int n), .val (.ref (ad b.size 2)), .unset] [] [.inl (.int, [.int a0, .int a1, .int a2, .int a3]), .inl (.byte, [.int x0, .int x1, .int x2, .int x3]), .inl (.byte, ivs (pre ++ List.replicate (0) 0))] 3 s0 := by
  have w0 := sz_le a0
  have w1 := sz_le a1
  have w2 := sz_le a2
  have w3 := sz_le a3
  have hz : (s0 ≤ 128) = True := eq_true hs0
  refine e0_221 200 ?_
  have hQl : pre.length < 200 := by omega
  rw [show List.replicate 0 (0 : Int32) = [] from rfl]
  simp only [↓S0, ↓B0, ↓idx_c, ↓setN_c, ↓idxN_c, ↓repN_c, ↓reduceIte, B1, List.mem_cons, List.not_mem_nil, or_false, true_or, or_true, true_and, and_true, and_self, not_true_eq_false, not_false_eq_true, eq_self, ne_eq, Nat.zero_le, Nat.le_refl, Nat.reduceAdd, Nat.reduceSub, Nat.reduceEqDiff, Nat.reduceLeDiff, Int32.reduceLT, Int32.reduceLE, Int32.reduceAdd, Int32.reduceSub, Int32.reduceMul, Int32.reduceToNatClampNeg, Int32.reduceOfNat, Int32.reduceOfInt, Int64.reduceLT, Int64.reduceAdd, Int64.reduceSub, Int64.reduceMul, String.reduceEq, reduceCtorEq, room_c, room_s, Nat.add_zero]
  refine kf0_328 (con1 _ _ pre [] (by simp only [List.length_append, List.length_cons, List.length_nil]; omega)) ?_ (hs := by show s0 + 0 ≤ 128; omega)
  refine r0 200 ?_
  simp only [↓S0, ↓B0, ↓idx_c, ↓setN_c, ↓idxN_c, ↓repN_c, ↓reduceIte, B1, List.mem_cons, List.not_mem_nil, or_false, true_or, or_true, true_and, and_true, and_self, not_true_eq_false, not_false_eq_true, eq_self, ne_eq, Nat.zero_le, Nat.le_refl, Nat.reduceAdd, Nat.reduceSub, Nat.reduceEqDiff, Nat.reduceLeDiff, Int32.reduceLT, Int32.reduceLE, Int32.reduceAdd, Int32.reduceSub, Int32.reduceMul, Int32.reduceToNatClampNeg, Int32.reduceOfNat, Int32.reduceOfInt, Int64.reduceLT, Int64.reduceAdd, Int64.reduceSub, Int64.reduceMul, String.reduceEq, reduceCtorEq, room_c, room_s, Nat.add_zero]
  refine kf0_336 (con2_0 _ _ a0 a1 a2 a3 pre.length) ?_ (hs := by show s0 + 0 ≤ 128; omega)
  refine r0 200 ?_
  have heq : eo [] pre.length = exq [] pre.length := by
    simp only [exq, eo]
  simp only [↓S0, ↓B0, ↓idx_c, ↓setN_c, ↓idxN_c, ↓repN_c, ↓reduceIte, B1, List.mem_cons, List.not_mem_nil, or_false, true_or, or_true, true_and, and_true, and_self, not_true_eq_false, not_false_eq_true, eq_self, ne_eq, Nat.zero_le, Nat.le_refl, Nat.reduceAdd, Nat.reduceSub, Nat.reduceEqDiff, Nat.reduceLeDiff, Int32.reduceLT, Int32.reduceLE, Int32.reduceAdd, Int32.reduceSub, Int32.reduceMul, Int32.reduceToNatClampNeg, Int32.reduceOfNat, Int32.reduceOfInt, Int64.reduceLT, Int64.reduceAdd, Int64.reduceSub, Int64.reduceMul, String.reduceEq, reduceCtorEq, room_c, room_s, Nat.add_zero, heq, hz]
theorem st221_0_1 (i0 : Int32) (i1 : Int64) (n : Int32) (a0 a1 a2 a3 x0 x1 x2 x3 : Int32) (hx0 : nar .byte x0 = x0) (hx1 : nar .byte x1 = x1) (hx2 : nar .byte x2 = x2) (hx3 : nar .byte x3 = x3) (hk0 : a0 = 0 ∨ a0 = 1 ∨ a0 = 2 ∨ a0 = 3) (hk1 : a1 = 0 ∨ a1 = 1 ∨ a1 = 2 ∨ a1 = 3) (hk2 : a2 = 0 ∨ a2 = 1 ∨ a2 = 2 ∨ a2 = 3) (hk3 : a3 = 0 ∨ a3 = 1 ∨ a3 = 2 ∨ a3 = 3) (pre : List Int32) (hp : pre.length < 100) (s0 : Nat) (hs0 : s0 ≤ 128) :
    G0 l Z b (fun v _ => v = some (.int 1)) 221 [.val (.int i0), .val (.long i1), .second, .val (.int (0)), .val (.ref (ad b.size 0)), .val (.int (1)), .val (.int (Int32.ofNat pre.length)), .val (.ref (ad b.size 1)), .val (.int n), .val (.ref (ad b.size 2)), .unset] [] [.inl (.int, [.int a0, .int a1, .int a2, .int a3]), .inl (.byte, [.int x0, .int x1, .int x2, .int x3]), .inl (.byte, ivs (pre ++ List.replicate (1) 0))] 3 s0 := by
  have w0 := sz_le a0
  have w1 := sz_le a1
  have w2 := sz_le a2
  have w3 := sz_le a3
  have hz : (s0 ≤ 128) = True := eq_true hs0
  refine e0_221 200 ?_
  have hQl : pre.length < 200 := by omega
  rw [show List.replicate 1 (0 : Int32) = [0] from rfl]
  have g0 : pre.length < 2147483648 := by omega
  have g2 : pre.length < (pre ++ [(0 : Int32)]).length := by simp
  simp only [↓S0, ↓B0, ↓idxN_c, ↓repN_c, ↓reduceIte, B1, List.mem_cons, List.not_mem_nil, or_false, true_or, or_true, true_and, and_true, and_self, not_true_eq_false, not_false_eq_true, eq_self, ne_eq, Nat.zero_le, Nat.le_refl, Nat.reduceAdd, Nat.reduceSub, Nat.reduceEqDiff, Nat.reduceLeDiff, Int32.reduceLT, Int32.reduceLE, Int32.reduceAdd, Int32.reduceSub, Int32.reduceMul, Int32.reduceToNatClampNeg, Int32.reduceOfNat, Int32.reduceOfInt, Int64.reduceLT, Int64.reduceAdd, Int64.reduceSub, Int64.reduceMul, String.reduceEq, reduceCtorEq, room_c, room_s, ↓idx_iv g0 g2, ↓setN_d, onat_nat g0, n0, ivs_set, set_at, Nat.add_zero]
  refine kf0_328 (con1 _ _ pre [0] (by simp only [List.length_append, List.length_cons, List.length_nil]; omega)) ?_ (hs := by show s0 + 0 ≤ 128; omega)
  refine r0 200 ?_
  simp only [↓S0, ↓B0, ↓idx_c, ↓setN_c, ↓idxN_c, ↓repN_c, ↓reduceIte, B1, List.mem_cons, List.not_mem_nil, or_false, true_or, or_true, true_and, and_true, and_self, not_true_eq_false, not_false_eq_true, eq_self, ne_eq, Nat.zero_le, Nat.le_refl, Nat.reduceAdd, Nat.reduceSub, Nat.reduceEqDiff, Nat.reduceLeDiff, Int32.reduceLT, Int32.reduceLE, Int32.reduceAdd, Int32.reduceSub, Int32.reduceMul, Int32.reduceToNatClampNeg, Int32.reduceOfNat, Int32.reduceOfInt, Int64.reduceLT, Int64.reduceAdd, Int64.reduceSub, Int64.reduceMul, String.reduceEq, reduceCtorEq, room_c, room_s, Nat.add_zero]
  refine kf0_336 (con2_0 _ _ a0 a1 a2 a3 pre.length) ?_ (hs := by show s0 + 0 ≤ 128; omega)
  refine r0 200 ?_
  have heq : eo [0] pre.length = exq [] pre.length := by
    simp only [exq, eo]
  simp only [↓S0, ↓B0, ↓idx_c, ↓setN_c, ↓idxN_c, ↓repN_c, ↓reduceIte, B1, List.mem_cons, List.not_mem_nil, or_false, true_or, or_true, true_and, and_true, and_self, not_true_eq_false, not_false_eq_true, eq_self, ne_eq, Nat.zero_le, Nat.le_refl, Nat.reduceAdd, Nat.reduceSub, Nat.reduceEqDiff, Nat.reduceLeDiff, Int32.reduceLT, Int32.reduceLE, Int32.reduceAdd, Int32.reduceSub, Int32.reduceMul, Int32.reduceToNatClampNeg, Int32.reduceOfNat, Int32.reduceOfInt, Int64.reduceLT, Int64.reduceAdd, Int64.reduceSub, Int64.reduceMul, String.reduceEq, reduceCtorEq, room_c, room_s, Nat.add_zero, heq, hz]
theorem st221_1_0 (i0 : Int32) (i1 : Int64) (n : Int32) (a0 a1 a2 a3 x0 x1 x2 x3 : Int32) (hx0 : nar .byte x0 = x0) (hx1 : nar .byte x1 = x1) (hx2 : nar .byte x2 = x2) (hx3 : nar .byte x3 = x3) (hk0 : a0 = 0 ∨ a0 = 1 ∨ a0 = 2 ∨ a0 = 3) (hk1 : a1 = 0 ∨ a1 = 1 ∨ a1 = 2 ∨ a1 = 3) (hk2 : a2 = 0 ∨ a2 = 1 ∨ a2 = 2 ∨ a2 = 3) (hk3 : a3 = 0 ∨ a3 = 1 ∨ a3 = 2 ∨ a3 = 3) (pre : List Int32) (hp : pre.length < 100) (s0 : Nat) (hs0 : s0 ≤ 128) :
    G0 l Z b (fun v _ => v = some (.int 1)) 221 [.val (.int i0), .val (.long i1), .second, .val (.int (1)), .val (.ref (ad b.size 0)), .val (.int (0)), .val (.int (Int32.ofNat pre.length)), .val (.ref (ad b.size 1)), .val (.int n), .val (.ref (ad b.size 2)), .unset] [] [.inl (.int, [.int a0, .int a1, .int a2, .int a3]), .inl (.byte, [.int x0, .int x1, .int x2, .int x3]), .inl (.byte, ivs (pre ++ List.replicate (sz a0 + (0)) 0))] 3 s0 := by
  have w0 := sz_le a0
  have w1 := sz_le a1
  have w2 := sz_le a2
  have w3 := sz_le a3
  have l0 := pie_len a0 x0
  have hz : (s0 ≤ 128) = True := eq_true hs0
  refine e0_221 200 ?_
  simp only [↓S0, ↓B0, ↓idx_c, ↓setN_c, ↓idxN_c, ↓repN_c, ↓reduceIte, B1, List.length_cons, List.length_nil, List.mem_cons, List.not_mem_nil, or_false, true_or, or_true, true_and, and_true, and_self, not_true_eq_false, not_false_eq_true, eq_self, ne_eq, Nat.zero_le, Nat.le_refl, Nat.reduceAdd, Nat.reduceSub, Nat.reduceEqDiff, Nat.reduceLeDiff, Int32.reduceLT, Int32.reduceLE, Int32.reduceAdd, Int32.reduceSub, Int32.reduceMul, Int32.reduceToNatClampNeg, Int32.reduceOfNat, Int32.reduceOfInt, Int64.reduceLT, Int64.reduceAdd, Int64.reduceSub, Int64.reduceMul, String.reduceEq, reduceCtorEq, room_c, room_s, Nat.add_zero]
  refine kf0_241 (con4 _ _ pre (sz a0 + (0)) a0 x0 hx0 hk0 (by omega) (by first | omega | (simp only [List.length_append]; omega))) ?_ (hs := by show s0 + 0 ≤ 128; omega)
  rw [Nat.add_sub_cancel_left]
  refine r0 200 ?_
  obtain ⟨Q, hQ⟩ : ∃ Q, Q = (pre ++ pie a0 x0) := ⟨_, rfl⟩
  have hQl : Q.length < 200 := by rw [hQ]; simp only [List.length_append]; omega
  rw [← hQ]
  rw [show List.replicate 0 (0 : Int32) = [] from rfl]
  simp only [↓S0, ↓B0, ↓idx_c, ↓setN_c, ↓idxN_c, ↓repN_c, ↓reduceIte, B1, List.mem_cons, List.not_mem_nil, or_false, true_or, or_true, true_and, and_true, and_self, not_true_eq_false, not_false_eq_true, eq_self, ne_eq, Nat.zero_le, Nat.le_refl, Nat.reduceAdd, Nat.reduceSub, Nat.reduceEqDiff, Nat.reduceLeDiff, Int32.reduceLT, Int32.reduceLE, Int32.reduceAdd, Int32.reduceSub, Int32.reduceMul, Int32.reduceToNatClampNeg, Int32.reduceOfNat, Int32.reduceOfInt, Int64.reduceLT, Int64.reduceAdd, Int64.reduceSub, Int64.reduceMul, String.reduceEq, reduceCtorEq, room_c, room_s, Nat.add_zero]
  rw [hQ, show (pre ++ pie a0 x0) ++ ([] : List Int32) = pre ++ (pie a0 x0 ++ []) by simp only [List.append_assoc]]
  refine kf0_328 (con1 _ _ pre (pie a0 x0 ++ []) (by simp only [List.length_append, List.length_cons, List.length_nil]; omega)) ?_ (hs := by show s0 + 0 ≤ 128; omega)
  refine r0 200 ?_
  simp only [↓S0, ↓B0, ↓idx_c, ↓setN_c, ↓idxN_c, ↓repN_c, ↓reduceIte, B1, List.mem_cons, List.not_mem_nil, or_false, true_or, or_true, true_and, and_true, and_self, not_true_eq_false, not_false_eq_true, eq_self, ne_eq, Nat.zero_le, Nat.le_refl, Nat.reduceAdd, Nat.reduceSub, Nat.reduceEqDiff, Nat.reduceLeDiff, Int32.reduceLT, Int32.reduceLE, Int32.reduceAdd, Int32.reduceSub, Int32.reduceMul, Int32.reduceToNatClampNeg, Int32.reduceOfNat, Int32.reduceOfInt, Int64.reduceLT, Int64.reduceAdd, Int64.reduceSub, Int64.reduceMul, String.reduceEq, reduceCtorEq, room_c, room_s, Nat.add_zero]
  refine kf0_336 (con2_1 _ _ a0 a1 a2 a3 pre.length) ?_ (hs := by show s0 + 0 ≤ 128; omega)
  refine r0 200 ?_
  have heq : eo (pie a0 x0 ++ []) pre.length = exq [a0] pre.length := by
    simp only [exq, eo_pie a0 x0 hk0, eo]
  simp only [↓S0, ↓B0, ↓idx_c, ↓setN_c, ↓idxN_c, ↓repN_c, ↓reduceIte, B1, List.mem_cons, List.not_mem_nil, or_false, true_or, or_true, true_and, and_true, and_self, not_true_eq_false, not_false_eq_true, eq_self, ne_eq, Nat.zero_le, Nat.le_refl, Nat.reduceAdd, Nat.reduceSub, Nat.reduceEqDiff, Nat.reduceLeDiff, Int32.reduceLT, Int32.reduceLE, Int32.reduceAdd, Int32.reduceSub, Int32.reduceMul, Int32.reduceToNatClampNeg, Int32.reduceOfNat, Int32.reduceOfInt, Int64.reduceLT, Int64.reduceAdd, Int64.reduceSub, Int64.reduceMul, String.reduceEq, reduceCtorEq, room_c, room_s, Nat.add_zero, heq, hz]
theorem st221_1_1 (i0 : Int32) (i1 : Int64) (n : Int32) (a0 a1 a2 a3 x0 x1 x2 x3 : Int32) (hx0 : nar .byte x0 = x0) (hx1 : nar .byte x1 = x1) (hx2 : nar .byte x2 = x2) (hx3 : nar .byte x3 = x3) (hk0 : a0 = 0 ∨ a0 = 1 ∨ a0 = 2 ∨ a0 = 3) (hk1 : a1 = 0 ∨ a1 = 1 ∨ a1 = 2 ∨ a1 = 3) (hk2 : a2 = 0 ∨ a2 = 1 ∨ a2 = 2 ∨ a2 = 3) (hk3 : a3 = 0 ∨ a3 = 1 ∨ a3 = 2 ∨ a3 = 3) (pre : List Int32) (hp : pre.length < 100) (s0 : Nat) (hs0 : s0 ≤ 128) :
    G0 l Z b (fun v _ => v = some (.int 1)) 221 [.val (.int i0), .val (.long i1), .second, .val (.int (1)), .val (.ref (ad b.size 0)), .val (.int (1)), .val (.int (Int32.ofNat pre.length)), .val (.ref (ad b.size 1)), .val (.int n), .val (.ref (ad b.size 2)), .unset] [] [.inl (.int, [.int a0, .int a1, .int a2, .int a3]), .inl (.byte, [.int x0, .int x1, .int x2, .int x3]), .inl (.byte, ivs (pre ++ List.replicate (sz a0 + (1)) 0))] 3 s0 := by
  have w0 := sz_le a0
  have w1 := sz_le a1
  have w2 := sz_le a2
  have w3 := sz_le a3
  have l0 := pie_len a0 x0
  have hz : (s0 ≤ 128) = True := eq_true hs0
  refine e0_221 200 ?_
  simp only [↓S0, ↓B0, ↓idx_c, ↓setN_c, ↓idxN_c, ↓repN_c, ↓reduceIte, B1, List.length_cons, List.length_nil, List.mem_cons, List.not_mem_nil, or_false, true_or, or_true, true_and, and_true, and_self, not_true_eq_false, not_false_eq_true, eq_self, ne_eq, Nat.zero_le, Nat.le_refl, Nat.reduceAdd, Nat.reduceSub, Nat.reduceEqDiff, Nat.reduceLeDiff, Int32.reduceLT, Int32.reduceLE, Int32.reduceAdd, Int32.reduceSub, Int32.reduceMul, Int32.reduceToNatClampNeg, Int32.reduceOfNat, Int32.reduceOfInt, Int64.reduceLT, Int64.reduceAdd, Int64.reduceSub, Int64.reduceMul, String.reduceEq, reduceCtorEq, room_c, room_s, Nat.add_zero]
  refine kf0_241 (con4 _ _ pre (sz a0 + (1)) a0 x0 hx0 hk0 (by omega) (by first | omega | (simp only [List.length_append]; omega))) ?_ (hs := by show s0 + 0 ≤ 128; omega)
  rw [Nat.add_sub_cancel_left]
  refine r0 200 ?_
  obtain ⟨Q, hQ⟩ : ∃ Q, Q = (pre ++ pie a0 x0) := ⟨_, rfl⟩
  have hQl : Q.length < 200 := by rw [hQ]; simp only [List.length_append]; omega
  rw [← hQ]
  rw [show List.replicate 1 (0 : Int32) = [0] from rfl]
  have g0 : Q.length < 2147483648 := by omega
  have g2 : Q.length < (Q ++ [(0 : Int32)]).length := by simp
  simp only [↓S0, ↓B0, ↓idxN_c, ↓repN_c, ↓reduceIte, B1, List.mem_cons, List.not_mem_nil, or_false, true_or, or_true, true_and, and_true, and_self, not_true_eq_false, not_false_eq_true, eq_self, ne_eq, Nat.zero_le, Nat.le_refl, Nat.reduceAdd, Nat.reduceSub, Nat.reduceEqDiff, Nat.reduceLeDiff, Int32.reduceLT, Int32.reduceLE, Int32.reduceAdd, Int32.reduceSub, Int32.reduceMul, Int32.reduceToNatClampNeg, Int32.reduceOfNat, Int32.reduceOfInt, Int64.reduceLT, Int64.reduceAdd, Int64.reduceSub, Int64.reduceMul, String.reduceEq, reduceCtorEq, room_c, room_s, ↓idx_iv g0 g2, ↓setN_d, onat_nat g0, n0, ivs_set, set_at, Nat.add_zero]
  rw [hQ, show (pre ++ pie a0 x0) ++ ([0] : List Int32) = pre ++ (pie a0 x0 ++ [0]) by simp only [List.append_assoc]]
  refine kf0_328 (con1 _ _ pre (pie a0 x0 ++ [0]) (by simp only [List.length_append, List.length_cons, List.length_nil]; omega)) ?_ (hs := by show s0 + 0 ≤ 128; omega)
  refine r0 200 ?_
  simp only [↓S0, ↓B0, ↓idx_c, ↓setN_c, ↓idxN_c, ↓repN_c, ↓reduceIte, B1, List.mem_cons, List.not_mem_nil, or_false, true_or, or_true, true_and, and_true, and_self, not_true_eq_false, not_false_eq_true, eq_self, ne_eq, Nat.zero_le, Nat.le_refl, Nat.reduceAdd, Nat.reduceSub, Nat.reduceEqDiff, Nat.reduceLeDiff, Int32.reduceLT, Int32.reduceLE, Int32.reduceAdd, Int32.reduceSub, Int32.reduceMul, Int32.reduceToNatClampNeg, Int32.reduceOfNat, Int32.reduceOfInt, Int64.reduceLT, Int64.reduceAdd, Int64.reduceSub, Int64.reduceMul, String.reduceEq, reduceCtorEq, room_c, room_s, Nat.add_zero]
  refine kf0_336 (con2_1 _ _ a0 a1 a2 a3 pre.length) ?_ (hs := by show s0 + 0 ≤ 128; omega)
  refine r0 200 ?_
  have heq : eo (pie a0 x0 ++ [0]) pre.length = exq [a0] pre.length := by
    simp only [exq, eo_pie a0 x0 hk0, eo]
  simp only [↓S0, ↓B0, ↓idx_c, ↓setN_c, ↓idxN_c, ↓repN_c, ↓reduceIte, B1, List.mem_cons, List.not_mem_nil, or_false, true_or, or_true, true_and, and_true, and_self, not_true_eq_false, not_false_eq_true, eq_self, ne_eq, Nat.zero_le, Nat.le_refl, Nat.reduceAdd, Nat.reduceSub, Nat.reduceEqDiff, Nat.reduceLeDiff, Int32.reduceLT, Int32.reduceLE, Int32.reduceAdd, Int32.reduceSub, Int32.reduceMul, Int32.reduceToNatClampNeg, Int32.reduceOfNat, Int32.reduceOfInt, Int64.reduceLT, Int64.reduceAdd, Int64.reduceSub, Int64.reduceMul, String.reduceEq, reduceCtorEq, room_c, room_s, Nat.add_zero, heq, hz]
theorem st221_2_0 (i0 : Int32) (i1 : Int64) (n : Int32) (a0 a1 a2 a3 x0 x1 x2 x3 : Int32) (hx0 : nar .byte x0 = x0) (hx1 : nar .byte x1 = x1) (hx2 : nar .byte x2 = x2) (hx3 : nar .byte x3 = x3) (hk0 : a0 = 0 ∨ a0 = 1 ∨ a0 = 2 ∨ a0 = 3) (hk1 : a1 = 0 ∨ a1 = 1 ∨ a1 = 2 ∨ a1 = 3) (hk2 : a2 = 0 ∨ a2 = 1 ∨ a2 = 2 ∨ a2 = 3) (hk3 : a3 = 0 ∨ a3 = 1 ∨ a3 = 2 ∨ a3 = 3) (pre : List Int32) (hp : pre.length < 100) (s0 : Nat) (hs0 : s0 ≤ 128) :
    G0 l Z b (fun v _ => v = some (.int 1)) 221 [.val (.int i0), .val (.long i1), .second, .val (.int (2)), .val (.ref (ad b.size 0)), .val (.int (0)), .val (.int (Int32.ofNat pre.length)), .val (.ref (ad b.size 1)), .val (.int n), .val (.ref (ad b.size 2)), .unset] [] [.inl (.int, [.int a0, .int a1, .int a2, .int a3]), .inl (.byte, [.int x0, .int x1, .int x2, .int x3]), .inl (.byte, ivs (pre ++ List.replicate (sz a0 + (sz a1 + (0))) 0))] 3 s0 := by
  have w0 := sz_le a0
  have w1 := sz_le a1
  have w2 := sz_le a2
  have w3 := sz_le a3
  have l0 := pie_len a0 x0
  have l1 := pie_len a1 x1
  have hz : (s0 ≤ 128) = True := eq_true hs0
  refine e0_221 200 ?_
  simp only [↓S0, ↓B0, ↓idx_c, ↓setN_c, ↓idxN_c, ↓repN_c, ↓reduceIte, B1, List.length_cons, List.length_nil, List.mem_cons, List.not_mem_nil, or_false, true_or, or_true, true_and, and_true, and_self, not_true_eq_false, not_false_eq_true, eq_self, ne_eq, Nat.zero_le, Nat.le_refl, Nat.reduceAdd, Nat.reduceSub, Nat.reduceEqDiff, Nat.reduceLeDiff, Int32.reduceLT, Int32.reduceLE, Int32.reduceAdd, Int32.reduceSub, Int32.reduceMul, Int32.reduceToNatClampNeg, Int32.reduceOfNat, Int32.reduceOfInt, Int64.reduceLT, Int64.reduceAdd, Int64.reduceSub, Int64.reduceMul, String.reduceEq, reduceCtorEq, room_c, room_s, Nat.add_zero]
  refine kf0_241 (con4 _ _ pre (sz a0 + (sz a1 + (0))) a0 x0 hx0 hk0 (by omega) (by first | omega | (simp only [List.length_append]; omega))) ?_ (hs := by show s0 + 0 ≤ 128; omega)
  rw [Nat.add_sub_cancel_left]
  refine r0 200 ?_
  simp only [↓S0, ↓B0, ↓idx_c, ↓setN_c, ↓idxN_c, ↓repN_c, ↓reduceIte, B1, List.length_cons, List.length_nil, List.mem_cons, List.not_mem_nil, or_false, true_or, or_true, true_and, and_true, and_self, not_true_eq_false, not_false_eq_true, eq_self, ne_eq, Nat.zero_le, Nat.le_refl, Nat.reduceAdd, Nat.reduceSub, Nat.reduceEqDiff, Nat.reduceLeDiff, Int32.reduceLT, Int32.reduceLE, Int32.reduceAdd, Int32.reduceSub, Int32.reduceMul, Int32.reduceToNatClampNeg, Int32.reduceOfNat, Int32.reduceOfInt, Int64.reduceLT, Int64.reduceAdd, Int64.reduceSub, Int64.reduceMul, String.reduceEq, reduceCtorEq, room_c, room_s, Nat.add_zero]
  refine kf0_263 (con4 _ _ (pre ++ pie a0 x0) (sz a1 + (0)) a1 x1 hx1 hk1 (by omega) (by first | omega | (simp only [List.length_append]; omega))) ?_ (hs := by show s0 + 0 ≤ 128; omega)
  rw [Nat.add_sub_cancel_left]
  refine r0 200 ?_
  obtain ⟨Q, hQ⟩ : ∃ Q, Q = ((pre ++ pie a0 x0) ++ pie a1 x1) := ⟨_, rfl⟩
  have hQl : Q.length < 200 := by rw [hQ]; simp only [List.length_append]; omega
  rw [← hQ]
  rw [show List.replicate 0 (0 : Int32) = [] from rfl]
  simp only [↓S0, ↓B0, ↓idx_c, ↓setN_c, ↓idxN_c, ↓repN_c, ↓reduceIte, B1, List.mem_cons, List.not_mem_nil, or_false, true_or, or_true, true_and, and_true, and_self, not_true_eq_false, not_false_eq_true, eq_self, ne_eq, Nat.zero_le, Nat.le_refl, Nat.reduceAdd, Nat.reduceSub, Nat.reduceEqDiff, Nat.reduceLeDiff, Int32.reduceLT, Int32.reduceLE, Int32.reduceAdd, Int32.reduceSub, Int32.reduceMul, Int32.reduceToNatClampNeg, Int32.reduceOfNat, Int32.reduceOfInt, Int64.reduceLT, Int64.reduceAdd, Int64.reduceSub, Int64.reduceMul, String.reduceEq, reduceCtorEq, room_c, room_s, Nat.add_zero]
  rw [hQ, show ((pre ++ pie a0 x0) ++ pie a1 x1) ++ ([] : List Int32) = pre ++ (pie a0 x0 ++ (pie a1 x1 ++ [])) by simp only [List.append_assoc]]
  refine kf0_328 (con1 _ _ pre (pie a0 x0 ++ (pie a1 x1 ++ [])) (by simp only [List.length_append, List.length_cons, List.length_nil]; omega)) ?_ (hs := by show s0 + 0 ≤ 128; omega)
  refine r0 200 ?_
  simp only [↓S0, ↓B0, ↓idx_c, ↓setN_c, ↓idxN_c, ↓repN_c, ↓reduceIte, B1, List.mem_cons, List.not_mem_nil, or_false, true_or, or_true, true_and, and_true, and_self, not_true_eq_false, not_false_eq_true, eq_self, ne_eq, Nat.zero_le, Nat.le_refl, Nat.reduceAdd, Nat.reduceSub, Nat.reduceEqDiff, Nat.reduceLeDiff, Int32.reduceLT, Int32.reduceLE, Int32.reduceAdd, Int32.reduceSub, Int32.reduceMul, Int32.reduceToNatClampNeg, Int32.reduceOfNat, Int32.reduceOfInt, Int64.reduceLT, Int64.reduceAdd, Int64.reduceSub, Int64.reduceMul, String.reduceEq, reduceCtorEq, room_c, room_s, Nat.add_zero]
  refine kf0_336 (con2_2 _ _ a0 a1 a2 a3 pre.length) ?_ (hs := by show s0 + 0 ≤ 128; omega)
  refine r0 200 ?_
  have heq : eo (pie a0 x0 ++ (pie a1 x1 ++ [])) pre.length = exq [a0, a1] pre.length := by
    simp only [exq, eo_pie a0 x0 hk0, eo_pie a1 x1 hk1, eo]
  simp only [↓S0, ↓B0, ↓idx_c, ↓setN_c, ↓idxN_c, ↓repN_c, ↓reduceIte, B1, List.mem_cons, List.not_mem_nil, or_false, true_or, or_true, true_and, and_true, and_self, not_true_eq_false, not_false_eq_true, eq_self, ne_eq, Nat.zero_le, Nat.le_refl, Nat.reduceAdd, Nat.reduceSub, Nat.reduceEqDiff, Nat.reduceLeDiff, Int32.reduceLT, Int32.reduceLE, Int32.reduceAdd, Int32.reduceSub, Int32.reduceMul, Int32.reduceToNatClampNeg, Int32.reduceOfNat, Int32.reduceOfInt, Int64.reduceLT, Int64.reduceAdd, Int64.reduceSub, Int64.reduceMul, String.reduceEq, reduceCtorEq, room_c, room_s, Nat.add_zero, heq, hz]
theorem st221_2_1 (i0 : Int32) (i1 : Int64) (n : Int32) (a0 a1 a2 a3 x0 x1 x2 x3 : Int32) (hx0 : nar .byte x0 = x0) (hx1 : nar .byte x1 = x1) (hx2 : nar .byte x2 = x2) (hx3 : nar .byte x3 = x3) (hk0 : a0 = 0 ∨ a0 = 1 ∨ a0 = 2 ∨ a0 = 3) (hk1 : a1 = 0 ∨ a1 = 1 ∨ a1 = 2 ∨ a1 = 3) (hk2 : a2 = 0 ∨ a2 = 1 ∨ a2 = 2 ∨ a2 = 3) (hk3 : a3 = 0 ∨ a3 = 1 ∨ a3 = 2 ∨ a3 = 3) (pre : List Int32) (hp : pre.length < 100) (s0 : Nat) (hs0 : s0 ≤ 128) :
    G0 l Z b (fun v _ => v = some (.int 1)) 221 [.val (.int i0), .val (.long i1), .second, .val (.int (2)), .val (.ref (ad b.size 0)), .val (.int (1)), .val (.int (Int32.ofNat pre.length)), .val (.ref (ad b.size 1)), .val (.int n), .val (.ref (ad b.size 2)), .unset] [] [.inl (.int, [.int a0, .int a1, .int a2, .int a3]), .inl (.byte, [.int x0, .int x1, .int x2, .int x3]), .inl (.byte, ivs (pre ++ List.replicate (sz a0 + (sz a1 + (1))) 0))] 3 s0 := by
  have w0 := sz_le a0
  have w1 := sz_le a1
  have w2 := sz_le a2
  have w3 := sz_le a3
  have l0 := pie_len a0 x0
  have l1 := pie_len a1 x1
  have hz : (s0 ≤ 128) = True := eq_true hs0
  refine e0_221 200 ?_
  simp only [↓S0, ↓B0, ↓idx_c, ↓setN_c, ↓idxN_c, ↓repN_c, ↓reduceIte, B1, List.length_cons, List.length_nil, List.mem_cons, List.not_mem_nil, or_false, true_or, or_true, true_and, and_true, and_self, not_true_eq_false, not_false_eq_true, eq_self, ne_eq, Nat.zero_le, Nat.le_refl, Nat.reduceAdd, Nat.reduceSub, Nat.reduceEqDiff, Nat.reduceLeDiff, Int32.reduceLT, Int32.reduceLE, Int32.reduceAdd, Int32.reduceSub, Int32.reduceMul, Int32.reduceToNatClampNeg, Int32.reduceOfNat, Int32.reduceOfInt, Int64.reduceLT, Int64.reduceAdd, Int64.reduceSub, Int64.reduceMul, String.reduceEq, reduceCtorEq, room_c, room_s, Nat.add_zero]
  refine kf0_241 (con4 _ _ pre (sz a0 + (sz a1 + (1))) a0 x0 hx0 hk0 (by omega) (by first | omega | (simp only [List.length_append]; omega))) ?_ (hs := by show s0 + 0 ≤ 128; omega)
  rw [Nat.add_sub_cancel_left]
  refine r0 200 ?_
  simp only [↓S0, ↓B0, ↓idx_c, ↓setN_c, ↓idxN_c, ↓repN_c, ↓reduceIte, B1, List.length_cons, List.length_nil, List.mem_cons, List.not_mem_nil, or_false, true_or, or_true, true_and, and_true, and_self, not_true_eq_false, not_false_eq_true, eq_self, ne_eq, Nat.zero_le, Nat.le_refl, Nat.reduceAdd, Nat.reduceSub, Nat.reduceEqDiff, Nat.reduceLeDiff, Int32.reduceLT, Int32.reduceLE, Int32.reduceAdd, Int32.reduceSub, Int32.reduceMul, Int32.reduceToNatClampNeg, Int32.reduceOfNat, Int32.reduceOfInt, Int64.reduceLT, Int64.reduceAdd, Int64.reduceSub, Int64.reduceMul, String.reduceEq, reduceCtorEq, room_c, room_s, Nat.add_zero]
  refine kf0_263 (con4 _ _ (pre ++ pie a0 x0) (sz a1 + (1)) a1 x1 hx1 hk1 (by omega) (by first | omega | (simp only [List.length_append]; omega))) ?_ (hs := by show s0 + 0 ≤ 128; omega)
  rw [Nat.add_sub_cancel_left]
  refine r0 200 ?_
  obtain ⟨Q, hQ⟩ : ∃ Q, Q = ((pre ++ pie a0 x0) ++ pie a1 x1) := ⟨_, rfl⟩
  have hQl : Q.length < 200 := by rw [hQ]; simp only [List.length_append]; omega
  rw [← hQ]
  rw [show List.replicate 1 (0 : Int32) = [0] from rfl]
  have g0 : Q.length < 2147483648 := by omega
  have g2 : Q.length < (Q ++ [(0 : Int32)]).length := by simp
  simp only [↓S0, ↓B0, ↓idxN_c, ↓repN_c, ↓reduceIte, B1, List.mem_cons, List.not_mem_nil, or_false, true_or, or_true, true_and, and_true, and_self, not_true_eq_false, not_false_eq_true, eq_self, ne_eq, Nat.zero_le, Nat.le_refl, Nat.reduceAdd, Nat.reduceSub, Nat.reduceEqDiff, Nat.reduceLeDiff, Int32.reduceLT, Int32.reduceLE, Int32.reduceAdd, Int32.reduceSub, Int32.reduceMul, Int32.reduceToNatClampNeg, Int32.reduceOfNat, Int32.reduceOfInt, Int64.reduceLT, Int64.reduceAdd, Int64.reduceSub, Int64.reduceMul, String.reduceEq, reduceCtorEq, room_c, room_s, ↓idx_iv g0 g2, ↓setN_d, onat_nat g0, n0, ivs_set, set_at, Nat.add_zero]
  rw [hQ, show ((pre ++ pie a0 x0) ++ pie a1 x1) ++ ([0] : List Int32) = pre ++ (pie a0 x0 ++ (pie a1 x1 ++ [0])) by simp only [List.append_assoc]]
  refine kf0_328 (con1 _ _ pre (pie a0 x0 ++ (pie a1 x1 ++ [0])) (by simp only [List.length_append, List.length_cons, List.length_nil]; omega)) ?_ (hs := by show s0 + 0 ≤ 128; omega)
  refine r0 200 ?_
  simp only [↓S0, ↓B0, ↓idx_c, ↓setN_c, ↓idxN_c, ↓repN_c, ↓reduceIte, B1, List.mem_cons, List.not_mem_nil, or_false, true_or, or_true, true_and, and_true, and_self, not_true_eq_false, not_false_eq_true, eq_self, ne_eq, Nat.zero_le, Nat.le_refl, Nat.reduceAdd, Nat.reduceSub, Nat.reduceEqDiff, Nat.reduceLeDiff, Int32.reduceLT, Int32.reduceLE, Int32.reduceAdd, Int32.reduceSub, Int32.reduceMul, Int32.reduceToNatClampNeg, Int32.reduceOfNat, Int32.reduceOfInt, Int64.reduceLT, Int64.reduceAdd, Int64.reduceSub, Int64.reduceMul, String.reduceEq, reduceCtorEq, room_c, room_s, Nat.add_zero]
  refine kf0_336 (con2_2 _ _ a0 a1 a2 a3 pre.length) ?_ (hs := by show s0 + 0 ≤ 128; omega)
  refine r0 200 ?_
  have heq : eo (pie a0 x0 ++ (pie a1 x1 ++ [0])) pre.length = exq [a0, a1] pre.length := by
    simp only [exq, eo_pie a0 x0 hk0, eo_pie a1 x1 hk1, eo]
  simp only [↓S0, ↓B0, ↓idx_c, ↓setN_c, ↓idxN_c, ↓repN_c, ↓reduceIte, B1, List.mem_cons, List.not_mem_nil, or_false, true_or, or_true, true_and, and_true, and_self, not_true_eq_false, not_false_eq_true, eq_self, ne_eq, Nat.zero_le, Nat.le_refl, Nat.reduceAdd, Nat.reduceSub, Nat.reduceEqDiff, Nat.reduceLeDiff, Int32.reduceLT, Int32.reduceLE, Int32.reduceAdd, Int32.reduceSub, Int32.reduceMul, Int32.reduceToNatClampNeg, Int32.reduceOfNat, Int32.reduceOfInt, Int64.reduceLT, Int64.reduceAdd, Int64.reduceSub, Int64.reduceMul, String.reduceEq, reduceCtorEq, room_c, room_s, Nat.add_zero, heq, hz]
theorem st221_3_0 (i0 : Int32) (i1 : Int64) (n : Int32) (a0 a1 a2 a3 x0 x1 x2 x3 : Int32) (hx0 : nar .byte x0 = x0) (hx1 : nar .byte x1 = x1) (hx2 : nar .byte x2 = x2) (hx3 : nar .byte x3 = x3) (hk0 : a0 = 0 ∨ a0 = 1 ∨ a0 = 2 ∨ a0 = 3) (hk1 : a1 = 0 ∨ a1 = 1 ∨ a1 = 2 ∨ a1 = 3) (hk2 : a2 = 0 ∨ a2 = 1 ∨ a2 = 2 ∨ a2 = 3) (hk3 : a3 = 0 ∨ a3 = 1 ∨ a3 = 2 ∨ a3 = 3) (pre : List Int32) (hp : pre.length < 100) (s0 : Nat) (hs0 : s0 ≤ 128) :
    G0 l Z b (fun v _ => v = some (.int 1)) 221 [.val (.int i0), .val (.long i1), .second, .val (.int (3)), .val (.ref (ad b.size 0)), .val (.int (0)), .val (.int (Int32.ofNat pre.length)), .val (.ref (ad b.size 1)), .val (.int n), .val (.ref (ad b.size 2)), .unset] [] [.inl (.int, [.int a0, .int a1, .int a2, .int a3]), .inl (.byte, [.int x0, .int x1, .int x2, .int x3]), .inl (.byte, ivs (pre ++ List.replicate (sz a0 + (sz a1 + (sz a2 + (0)))) 0))] 3 s0 := by
  have w0 := sz_le a0
  have w1 := sz_le a1
  have w2 := sz_le a2
  have w3 := sz_le a3
  have l0 := pie_len a0 x0
  have l1 := pie_len a1 x1
  have l2 := pie_len a2 x2
  have hz : (s0 ≤ 128) = True := eq_true hs0
  refine e0_221 200 ?_
  simp only [↓S0, ↓B0, ↓idx_c, ↓setN_c, ↓idxN_c, ↓repN_c, ↓reduceIte, B1, List.length_cons, List.length_nil, List.mem_cons, List.not_mem_nil, or_false, true_or, or_true, true_and, and_true, and_self, not_true_eq_false, not_false_eq_true, eq_self, ne_eq, Nat.zero_le, Nat.le_refl, Nat.reduceAdd, Nat.reduceSub, Nat.reduceEqDiff, Nat.reduceLeDiff, Int32.reduceLT, Int32.reduceLE, Int32.reduceAdd, Int32.reduceSub, Int32.reduceMul, Int32.reduceToNatClampNeg, Int32.reduceOfNat, Int32.reduceOfInt, Int64.reduceLT, Int64.reduceAdd, Int64.reduceSub, Int64.reduceMul, String.reduceEq, reduceCtorEq, room_c, room_s, Nat.add_zero]
  refine kf0_241 (con4 _ _ pre (sz a0 + (sz a1 + (sz a2 + (0)))) a0 x0 hx0 hk0 (by omega) (by first | omega | (simp only [List.length_append]; omega))) ?_ (hs := by show s0 + 0 ≤ 128; omega)
  rw [Nat.add_sub_cancel_left]
  refine r0 200 ?_
  simp only [↓S0, ↓B0, ↓idx_c, ↓setN_c, ↓idxN_c, ↓repN_c, ↓reduceIte, B1, List.length_cons, List.length_nil, List.mem_cons, List.not_mem_nil, or_false, true_or, or_true, true_and, and_true, and_self, not_true_eq_false, not_false_eq_true, eq_self, ne_eq, Nat.zero_le, Nat.le_refl, Nat.reduceAdd, Nat.reduceSub, Nat.reduceEqDiff, Nat.reduceLeDiff, Int32.reduceLT, Int32.reduceLE, Int32.reduceAdd, Int32.reduceSub, Int32.reduceMul, Int32.reduceToNatClampNeg, Int32.reduceOfNat, Int32.reduceOfInt, Int64.reduceLT, Int64.reduceAdd, Int64.reduceSub, Int64.reduceMul, String.reduceEq, reduceCtorEq, room_c, room_s, Nat.add_zero]
  refine kf0_263 (con4 _ _ (pre ++ pie a0 x0) (sz a1 + (sz a2 + (0))) a1 x1 hx1 hk1 (by omega) (by first | omega | (simp only [List.length_append]; omega))) ?_ (hs := by show s0 + 0 ≤ 128; omega)
  rw [Nat.add_sub_cancel_left]
  refine r0 200 ?_
  simp only [↓S0, ↓B0, ↓idx_c, ↓setN_c, ↓idxN_c, ↓repN_c, ↓reduceIte, B1, List.length_cons, List.length_nil, List.mem_cons, List.not_mem_nil, or_false, true_or, or_true, true_and, and_true, and_self, not_true_eq_false, not_false_eq_true, eq_self, ne_eq, Nat.zero_le, Nat.le_refl, Nat.reduceAdd, Nat.reduceSub, Nat.reduceEqDiff, Nat.reduceLeDiff, Int32.reduceLT, Int32.reduceLE, Int32.reduceAdd, Int32.reduceSub, Int32.reduceMul, Int32.reduceToNatClampNeg, Int32.reduceOfNat, Int32.reduceOfInt, Int64.reduceLT, Int64.reduceAdd, Int64.reduceSub, Int64.reduceMul, String.reduceEq, reduceCtorEq, room_c, room_s, Nat.add_zero]
  refine kf0_285 (con4 _ _ ((pre ++ pie a0 x0) ++ pie a1 x1) (sz a2 + (0)) a2 x2 hx2 hk2 (by omega) (by first | omega | (simp only [List.length_append]; omega))) ?_ (hs := by show s0 + 0 ≤ 128; omega)
  rw [Nat.add_sub_cancel_left]
  refine r0 200 ?_
  obtain ⟨Q, hQ⟩ : ∃ Q, Q = (((pre ++ pie a0 x0) ++ pie a1 x1) ++ pie a2 x2) := ⟨_, rfl⟩
  have hQl : Q.length < 200 := by rw [hQ]; simp only [List.length_append]; omega
  rw [← hQ]
  rw [show List.replicate 0 (0 : Int32) = [] from rfl]
  simp only [↓S0, ↓B0, ↓idx_c, ↓setN_c, ↓idxN_c, ↓repN_c, ↓reduceIte, B1, List.mem_cons, List.not_mem_nil, or_false, true_or, or_true, true_and, and_true, and_self, not_true_eq_false, not_false_eq_true, eq_self, ne_eq, Nat.zero_le, Nat.le_refl, Nat.reduceAdd, Nat.reduceSub, Nat.reduceEqDiff, Nat.reduceLeDiff, Int32.reduceLT, Int32.reduceLE, Int32.reduceAdd, Int32.reduceSub, Int32.reduceMul, Int32.reduceToNatClampNeg, Int32.reduceOfNat, Int32.reduceOfInt, Int64.reduceLT, Int64.reduceAdd, Int64.reduceSub, Int64.reduceMul, String.reduceEq, reduceCtorEq, room_c, room_s, Nat.add_zero]
  rw [hQ, show (((pre ++ pie a0 x0) ++ pie a1 x1) ++ pie a2 x2) ++ ([] : List Int32) = pre ++ (pie a0 x0 ++ (pie a1 x1 ++ (pie a2 x2 ++ []))) by simp only [List.append_assoc]]
  refine kf0_328 (con1 _ _ pre (pie a0 x0 ++ (pie a1 x1 ++ (pie a2 x2 ++ []))) (by simp only [List.length_append, List.length_cons, List.length_nil]; omega)) ?_ (hs := by show s0 + 0 ≤ 128; omega)
  refine r0 200 ?_
  simp only [↓S0, ↓B0, ↓idx_c, ↓setN_c, ↓idxN_c, ↓repN_c, ↓reduceIte, B1, List.mem_cons, List.not_mem_nil, or_false, true_or, or_true, true_and, and_true, and_self, not_true_eq_false, not_false_eq_true, eq_self, ne_eq, Nat.zero_le, Nat.le_refl, Nat.reduceAdd, Nat.reduceSub, Nat.reduceEqDiff, Nat.reduceLeDiff, Int32.reduceLT, Int32.reduceLE, Int32.reduceAdd, Int32.reduceSub, Int32.reduceMul, Int32.reduceToNatClampNeg, Int32.reduceOfNat, Int32.reduceOfInt, Int64.reduceLT, Int64.reduceAdd, Int64.reduceSub, Int64.reduceMul, String.reduceEq, reduceCtorEq, room_c, room_s, Nat.add_zero]
  refine kf0_336 (con2_3 _ _ a0 a1 a2 a3 pre.length) ?_ (hs := by show s0 + 0 ≤ 128; omega)
  refine r0 200 ?_
  have heq : eo (pie a0 x0 ++ (pie a1 x1 ++ (pie a2 x2 ++ []))) pre.length = exq [a0, a1, a2] pre.length := by
    simp only [exq, eo_pie a0 x0 hk0, eo_pie a1 x1 hk1, eo_pie a2 x2 hk2, eo]
  simp only [↓S0, ↓B0, ↓idx_c, ↓setN_c, ↓idxN_c, ↓repN_c, ↓reduceIte, B1, List.mem_cons, List.not_mem_nil, or_false, true_or, or_true, true_and, and_true, and_self, not_true_eq_false, not_false_eq_true, eq_self, ne_eq, Nat.zero_le, Nat.le_refl, Nat.reduceAdd, Nat.reduceSub, Nat.reduceEqDiff, Nat.reduceLeDiff, Int32.reduceLT, Int32.reduceLE, Int32.reduceAdd, Int32.reduceSub, Int32.reduceMul, Int32.reduceToNatClampNeg, Int32.reduceOfNat, Int32.reduceOfInt, Int64.reduceLT, Int64.reduceAdd, Int64.reduceSub, Int64.reduceMul, String.reduceEq, reduceCtorEq, room_c, room_s, Nat.add_zero, heq, hz]
theorem st221_3_1 (i0 : Int32) (i1 : Int64) (n : Int32) (a0 a1 a2 a3 x0 x1 x2 x3 : Int32) (hx0 : nar .byte x0 = x0) (hx1 : nar .byte x1 = x1) (hx2 : nar .byte x2 = x2) (hx3 : nar .byte x3 = x3) (hk0 : a0 = 0 ∨ a0 = 1 ∨ a0 = 2 ∨ a0 = 3) (hk1 : a1 = 0 ∨ a1 = 1 ∨ a1 = 2 ∨ a1 = 3) (hk2 : a2 = 0 ∨ a2 = 1 ∨ a2 = 2 ∨ a2 = 3) (hk3 : a3 = 0 ∨ a3 = 1 ∨ a3 = 2 ∨ a3 = 3) (pre : List Int32) (hp : pre.length < 100) (s0 : Nat) (hs0 : s0 ≤ 128) :
    G0 l Z b (fun v _ => v = some (.int 1)) 221 [.val (.int i0), .val (.long i1), .second, .val (.int (3)), .val (.ref (ad b.size 0)), .val (.int (1)), .val (.int (Int32.ofNat pre.length)), .val (.ref (ad b.size 1)), .val (.int n), .val (.ref (ad b.size 2)), .unset] [] [.inl (.int, [.int a0, .int a1, .int a2, .int a3]), .inl (.byte, [.int x0, .int x1, .int x2, .int x3]), .inl (.byte, ivs (pre ++ List.replicate (sz a0 + (sz a1 + (sz a2 + (1)))) 0))] 3 s0 := by
  have w0 := sz_le a0
  have w1 := sz_le a1
  have w2 := sz_le a2
  have w3 := sz_le a3
  have l0 := pie_len a0 x0
  have l1 := pie_len a1 x1
  have l2 := pie_len a2 x2
  have hz : (s0 ≤ 128) = True := eq_true hs0
  refine e0_221 200 ?_
  simp only [↓S0, ↓B0, ↓idx_c, ↓setN_c, ↓idxN_c, ↓repN_c, ↓reduceIte, B1, List.length_cons, List.length_nil, List.mem_cons, List.not_mem_nil, or_false, true_or, or_true, true_and, and_true, and_self, not_true_eq_false, not_false_eq_true, eq_self, ne_eq, Nat.zero_le, Nat.le_refl, Nat.reduceAdd, Nat.reduceSub, Nat.reduceEqDiff, Nat.reduceLeDiff, Int32.reduceLT, Int32.reduceLE, Int32.reduceAdd, Int32.reduceSub, Int32.reduceMul, Int32.reduceToNatClampNeg, Int32.reduceOfNat, Int32.reduceOfInt, Int64.reduceLT, Int64.reduceAdd, Int64.reduceSub, Int64.reduceMul, String.reduceEq, reduceCtorEq, room_c, room_s, Nat.add_zero]
  refine kf0_241 (con4 _ _ pre (sz a0 + (sz a1 + (sz a2 + (1)))) a0 x0 hx0 hk0 (by omega) (by first | omega | (simp only [List.length_append]; omega))) ?_ (hs := by show s0 + 0 ≤ 128; omega)
  rw [Nat.add_sub_cancel_left]
  refine r0 200 ?_
  simp only [↓S0, ↓B0, ↓idx_c, ↓setN_c, ↓idxN_c, ↓repN_c, ↓reduceIte, B1, List.length_cons, List.length_nil, List.mem_cons, List.not_mem_nil, or_false, true_or, or_true, true_and, and_true, and_self, not_true_eq_false, not_false_eq_true, eq_self, ne_eq, Nat.zero_le, Nat.le_refl, Nat.reduceAdd, Nat.reduceSub, Nat.reduceEqDiff, Nat.reduceLeDiff, Int32.reduceLT, Int32.reduceLE, Int32.reduceAdd, Int32.reduceSub, Int32.reduceMul, Int32.reduceToNatClampNeg, Int32.reduceOfNat, Int32.reduceOfInt, Int64.reduceLT, Int64.reduceAdd, Int64.reduceSub, Int64.reduceMul, String.reduceEq, reduceCtorEq, room_c, room_s, Nat.add_zero]
  refine kf0_263 (con4 _ _ (pre ++ pie a0 x0) (sz a1 + (sz a2 + (1))) a1 x1 hx1 hk1 (by omega) (by first | omega | (simp only [List.length_append]; omega))) ?_ (hs := by show s0 + 0 ≤ 128; omega)
  rw [Nat.add_sub_cancel_left]
  refine r0 200 ?_
  simp only [↓S0, ↓B0, ↓idx_c, ↓setN_c, ↓idxN_c, ↓repN_c, ↓reduceIte, B1, List.length_cons, List.length_nil, List.mem_cons, List.not_mem_nil, or_false, true_or, or_true, true_and, and_true, and_self, not_true_eq_false, not_false_eq_true, eq_self, ne_eq, Nat.zero_le, Nat.le_refl, Nat.reduceAdd, Nat.reduceSub, Nat.reduceEqDiff, Nat.reduceLeDiff, Int32.reduceLT, Int32.reduceLE, Int32.reduceAdd, Int32.reduceSub, Int32.reduceMul, Int32.reduceToNatClampNeg, Int32.reduceOfNat, Int32.reduceOfInt, Int64.reduceLT, Int64.reduceAdd, Int64.reduceSub, Int64.reduceMul, String.reduceEq, reduceCtorEq, room_c, room_s, Nat.add_zero]
  refine kf0_285 (con4 _ _ ((pre ++ pie a0 x0) ++ pie a1 x1) (sz a2 + (1)) a2 x2 hx2 hk2 (by omega) (by first | omega | (simp only [List.length_append]; omega))) ?_ (hs := by show s0 + 0 ≤ 128; omega)
  rw [Nat.add_sub_cancel_left]
  refine r0 200 ?_
  obtain ⟨Q, hQ⟩ : ∃ Q, Q = (((pre ++ pie a0 x0) ++ pie a1 x1) ++ pie a2 x2) := ⟨_, rfl⟩
  have hQl : Q.length < 200 := by rw [hQ]; simp only [List.length_append]; omega
  rw [← hQ]
  rw [show List.replicate 1 (0 : Int32) = [0] from rfl]
  have g0 : Q.length < 2147483648 := by omega
  have g2 : Q.length < (Q ++ [(0 : Int32)]).length := by simp
  simp only [↓S0, ↓B0, ↓idxN_c, ↓repN_c, ↓reduceIte, B1, List.mem_cons, List.not_mem_nil, or_false, true_or, or_true, true_and, and_true, and_self, not_true_eq_false, not_false_eq_true, eq_self, ne_eq, Nat.zero_le, Nat.le_refl, Nat.reduceAdd, Nat.reduceSub, Nat.reduceEqDiff, Nat.reduceLeDiff, Int32.reduceLT, Int32.reduceLE, Int32.reduceAdd, Int32.reduceSub, Int32.reduceMul, Int32.reduceToNatClampNeg, Int32.reduceOfNat, Int32.reduceOfInt, Int64.reduceLT, Int64.reduceAdd, Int64.reduceSub, Int64.reduceMul, String.reduceEq, reduceCtorEq, room_c, room_s, ↓idx_iv g0 g2, ↓setN_d, onat_nat g0, n0, ivs_set, set_at, Nat.add_zero]
  rw [hQ, show (((pre ++ pie a0 x0) ++ pie a1 x1) ++ pie a2 x2) ++ ([0] : List Int32) = pre ++ (pie a0 x0 ++ (pie a1 x1 ++ (pie a2 x2 ++ [0]))) by simp only [List.append_assoc]]
  refine kf0_328 (con1 _ _ pre (pie a0 x0 ++ (pie a1 x1 ++ (pie a2 x2 ++ [0]))) (by simp only [List.length_append, List.length_cons, List.length_nil]; omega)) ?_ (hs := by show s0 + 0 ≤ 128; omega)
  refine r0 200 ?_
  simp only [↓S0, ↓B0, ↓idx_c, ↓setN_c, ↓idxN_c, ↓repN_c, ↓reduceIte, B1, List.mem_cons, List.not_mem_nil, or_false, true_or, or_true, true_and, and_true, and_self, not_true_eq_false, not_false_eq_true, eq_self, ne_eq, Nat.zero_le, Nat.le_refl, Nat.reduceAdd, Nat.reduceSub, Nat.reduceEqDiff, Nat.reduceLeDiff, Int32.reduceLT, Int32.reduceLE, Int32.reduceAdd, Int32.reduceSub, Int32.reduceMul, Int32.reduceToNatClampNeg, Int32.reduceOfNat, Int32.reduceOfInt, Int64.reduceLT, Int64.reduceAdd, Int64.reduceSub, Int64.reduceMul, String.reduceEq, reduceCtorEq, room_c, room_s, Nat.add_zero]
  refine kf0_336 (con2_3 _ _ a0 a1 a2 a3 pre.length) ?_ (hs := by show s0 + 0 ≤ 128; omega)
  refine r0 200 ?_
  have heq : eo (pie a0 x0 ++ (pie a1 x1 ++ (pie a2 x2 ++ [0]))) pre.length = exq [a0, a1, a2] pre.length := by
    simp only [exq, eo_pie a0 x0 hk0, eo_pie a1 x1 hk1, eo_pie a2 x2 hk2, eo]
  simp only [↓S0, ↓B0, ↓idx_c, ↓setN_c, ↓idxN_c, ↓repN_c, ↓reduceIte, B1, List.mem_cons, List.not_mem_nil, or_false, true_or, or_true, true_and, and_true, and_self, not_true_eq_false, not_false_eq_true, eq_self, ne_eq, Nat.zero_le, Nat.le_refl, Nat.reduceAdd, Nat.reduceSub, Nat.reduceEqDiff, Nat.reduceLeDiff, Int32.reduceLT, Int32.reduceLE, Int32.reduceAdd, Int32.reduceSub, Int32.reduceMul, Int32.reduceToNatClampNeg, Int32.reduceOfNat, Int32.reduceOfInt, Int64.reduceLT, Int64.reduceAdd, Int64.reduceSub, Int64.reduceMul, String.reduceEq, reduceCtorEq, room_c, room_s, Nat.add_zero, heq, hz]
theorem st221_4_0 (i0 : Int32) (i1 : Int64) (n : Int32) (a0 a1 a2 a3 x0 x1 x2 x3 : Int32) (hx0 : nar .byte x0 = x0) (hx1 : nar .byte x1 = x1) (hx2 : nar .byte x2 = x2) (hx3 : nar .byte x3 = x3) (hk0 : a0 = 0 ∨ a0 = 1 ∨ a0 = 2 ∨ a0 = 3) (hk1 : a1 = 0 ∨ a1 = 1 ∨ a1 = 2 ∨ a1 = 3) (hk2 : a2 = 0 ∨ a2 = 1 ∨ a2 = 2 ∨ a2 = 3) (hk3 : a3 = 0 ∨ a3 = 1 ∨ a3 = 2 ∨ a3 = 3) (pre : List Int32) (hp : pre.length < 100) (s0 : Nat) (hs0 : s0 ≤ 128) :
    G0 l Z b (fun v _ => v = some (.int 1)) 221 [.val (.int i0), .val (.long i1), .second, .val (.int (4)), .val (.ref (ad b.size 0)), .val (.int (0)), .val (.int (Int32.ofNat pre.length)), .val (.ref (ad b.size 1)), .val (.int n), .val (.ref (ad b.size 2)), .unset] [] [.inl (.int, [.int a0, .int a1, .int a2, .int a3]), .inl (.byte, [.int x0, .int x1, .int x2, .int x3]), .inl (.byte, ivs (pre ++ List.replicate (sz a0 + (sz a1 + (sz a2 + (sz a3 + (0))))) 0))] 3 s0 := by
  have w0 := sz_le a0
  have w1 := sz_le a1
  have w2 := sz_le a2
  have w3 := sz_le a3
  have l0 := pie_len a0 x0
  have l1 := pie_len a1 x1
  have l2 := pie_len a2 x2
  have l3 := pie_len a3 x3
  have hz : (s0 ≤ 128) = True := eq_true hs0
  refine e0_221 200 ?_
  simp only [↓S0, ↓B0, ↓idx_c, ↓setN_c, ↓idxN_c, ↓repN_c, ↓reduceIte, B1, List.length_cons, List.length_nil, List.mem_cons, List.not_mem_nil, or_false, true_or, or_true, true_and, and_true, and_self, not_true_eq_false, not_false_eq_true, eq_self, ne_eq, Nat.zero_le, Nat.le_refl, Nat.reduceAdd, Nat.reduceSub, Nat.reduceEqDiff, Nat.reduceLeDiff, Int32.reduceLT, Int32.reduceLE, Int32.reduceAdd, Int32.reduceSub, Int32.reduceMul, Int32.reduceToNatClampNeg, Int32.reduceOfNat, Int32.reduceOfInt, Int64.reduceLT, Int64.reduceAdd, Int64.reduceSub, Int64.reduceMul, String.reduceEq, reduceCtorEq, room_c, room_s, Nat.add_zero]
  refine kf0_241 (con4 _ _ pre (sz a0 + (sz a1 + (sz a2 + (sz a3 + (0))))) a0 x0 hx0 hk0 (by omega) (by first | omega | (simp only [List.length_append]; omega))) ?_ (hs := by show s0 + 0 ≤ 128; omega)
  rw [Nat.add_sub_cancel_left]
  refine r0 200 ?_
  simp only [↓S0, ↓B0, ↓idx_c, ↓setN_c, ↓idxN_c, ↓repN_c, ↓reduceIte, B1, List.length_cons, List.length_nil, List.mem_cons, List.not_mem_nil, or_false, true_or, or_true, true_and, and_true, and_self, not_true_eq_false, not_false_eq_true, eq_self, ne_eq, Nat.zero_le, Nat.le_refl, Nat.reduceAdd, Nat.reduceSub, Nat.reduceEqDiff, Nat.reduceLeDiff, Int32.reduceLT, Int32.reduceLE, Int32.reduceAdd, Int32.reduceSub, Int32.reduceMul, Int32.reduceToNatClampNeg, Int32.reduceOfNat, Int32.reduceOfInt, Int64.reduceLT, Int64.reduceAdd, Int64.reduceSub, Int64.reduceMul, String.reduceEq, reduceCtorEq, room_c, room_s, Nat.add_zero]
  refine kf0_263 (con4 _ _ (pre ++ pie a0 x0) (sz a1 + (sz a2 + (sz a3 + (0)))) a1 x1 hx1 hk1 (by omega) (by first | omega | (simp only [List.length_append]; omega))) ?_ (hs := by show s0 + 0 ≤ 128; omega)
  rw [Nat.add_sub_cancel_left]
  refine r0 200 ?_
  simp only [↓S0, ↓B0, ↓idx_c, ↓setN_c, ↓idxN_c, ↓repN_c, ↓reduceIte, B1, List.length_cons, List.length_nil, List.mem_cons, List.not_mem_nil, or_false, true_or, or_true, true_and, and_true, and_self, not_true_eq_false, not_false_eq_true, eq_self, ne_eq, Nat.zero_le, Nat.le_refl, Nat.reduceAdd, Nat.reduceSub, Nat.reduceEqDiff, Nat.reduceLeDiff, Int32.reduceLT, Int32.reduceLE, Int32.reduceAdd, Int32.reduceSub, Int32.reduceMul, Int32.reduceToNatClampNeg, Int32.reduceOfNat, Int32.reduceOfInt, Int64.reduceLT, Int64.reduceAdd, Int64.reduceSub, Int64.reduceMul, String.reduceEq, reduceCtorEq, room_c, room_s, Nat.add_zero]
  refine kf0_285 (con4 _ _ ((pre ++ pie a0 x0) ++ pie a1 x1) (sz a2 + (sz a3 + (0))) a2 x2 hx2 hk2 (by omega) (by first | omega | (simp only [List.length_append]; omega))) ?_ (hs := by show s0 + 0 ≤ 128; omega)
  rw [Nat.add_sub_cancel_left]
  refine r0 200 ?_
  simp only [↓S0, ↓B0, ↓idx_c, ↓setN_c, ↓idxN_c, ↓repN_c, ↓reduceIte, B1, List.length_cons, List.length_nil, List.mem_cons, List.not_mem_nil, or_false, true_or, or_true, true_and, and_true, and_self, not_true_eq_false, not_false_eq_true, eq_self, ne_eq, Nat.zero_le, Nat.le_refl, Nat.reduceAdd, Nat.reduceSub, Nat.reduceEqDiff, Nat.reduceLeDiff, Int32.reduceLT, Int32.reduceLE, Int32.reduceAdd, Int32.reduceSub, Int32.reduceMul, Int32.reduceToNatClampNeg, Int32.reduceOfNat, Int32.reduceOfInt, Int64.reduceLT, Int64.reduceAdd, Int64.reduceSub, Int64.reduceMul, String.reduceEq, reduceCtorEq, room_c, room_s, Nat.add_zero]
  refine kf0_307 (con4 _ _ (((pre ++ pie a0 x0) ++ pie a1 x1) ++ pie a2 x2) (sz a3 + (0)) a3 x3 hx3 hk3 (by omega) (by first | omega | (simp only [List.length_append]; omega))) ?_ (hs := by show s0 + 0 ≤ 128; omega)
  rw [Nat.add_sub_cancel_left]
  refine r0 200 ?_
  obtain ⟨Q, hQ⟩ : ∃ Q, Q = ((((pre ++ pie a0 x0) ++ pie a1 x1) ++ pie a2 x2) ++ pie a3 x3) := ⟨_, rfl⟩
  have hQl : Q.length < 200 := by rw [hQ]; simp only [List.length_append]; omega
  rw [← hQ]
  rw [show List.replicate 0 (0 : Int32) = [] from rfl]
  simp only [↓S0, ↓B0, ↓idx_c, ↓setN_c, ↓idxN_c, ↓repN_c, ↓reduceIte, B1, List.mem_cons, List.not_mem_nil, or_false, true_or, or_true, true_and, and_true, and_self, not_true_eq_false, not_false_eq_true, eq_self, ne_eq, Nat.zero_le, Nat.le_refl, Nat.reduceAdd, Nat.reduceSub, Nat.reduceEqDiff, Nat.reduceLeDiff, Int32.reduceLT, Int32.reduceLE, Int32.reduceAdd, Int32.reduceSub, Int32.reduceMul, Int32.reduceToNatClampNeg, Int32.reduceOfNat, Int32.reduceOfInt, Int64.reduceLT, Int64.reduceAdd, Int64.reduceSub, Int64.reduceMul, String.reduceEq, reduceCtorEq, room_c, room_s, Nat.add_zero]
  rw [hQ, show ((((pre ++ pie a0 x0) ++ pie a1 x1) ++ pie a2 x2) ++ pie a3 x3) ++ ([] : List Int32) = pre ++ (pie a0 x0 ++ (pie a1 x1 ++ (pie a2 x2 ++ (pie a3 x3 ++ [])))) by simp only [List.append_assoc]]
  refine kf0_328 (con1 _ _ pre (pie a0 x0 ++ (pie a1 x1 ++ (pie a2 x2 ++ (pie a3 x3 ++ [])))) (by simp only [List.length_append, List.length_cons, List.length_nil]; omega)) ?_ (hs := by show s0 + 0 ≤ 128; omega)
  refine r0 200 ?_
  simp only [↓S0, ↓B0, ↓idx_c, ↓setN_c, ↓idxN_c, ↓repN_c, ↓reduceIte, B1, List.mem_cons, List.not_mem_nil, or_false, true_or, or_true, true_and, and_true, and_self, not_true_eq_false, not_false_eq_true, eq_self, ne_eq, Nat.zero_le, Nat.le_refl, Nat.reduceAdd, Nat.reduceSub, Nat.reduceEqDiff, Nat.reduceLeDiff, Int32.reduceLT, Int32.reduceLE, Int32.reduceAdd, Int32.reduceSub, Int32.reduceMul, Int32.reduceToNatClampNeg, Int32.reduceOfNat, Int32.reduceOfInt, Int64.reduceLT, Int64.reduceAdd, Int64.reduceSub, Int64.reduceMul, String.reduceEq, reduceCtorEq, room_c, room_s, Nat.add_zero]
  refine kf0_336 (con2_4 _ _ a0 a1 a2 a3 pre.length) ?_ (hs := by show s0 + 0 ≤ 128; omega)
  refine r0 200 ?_
  have heq : eo (pie a0 x0 ++ (pie a1 x1 ++ (pie a2 x2 ++ (pie a3 x3 ++ [])))) pre.length = exq [a0, a1, a2, a3] pre.length := by
    simp only [exq, eo_pie a0 x0 hk0, eo_pie a1 x1 hk1, eo_pie a2 x2 hk2, eo_pie a3 x3 hk3, eo]
  simp only [↓S0, ↓B0, ↓idx_c, ↓setN_c, ↓idxN_c, ↓repN_c, ↓reduceIte, B1, List.mem_cons, List.not_mem_nil, or_false, true_or, or_true, true_and, and_true, and_self, not_true_eq_false, not_false_eq_true, eq_self, ne_eq, Nat.zero_le, Nat.le_refl, Nat.reduceAdd, Nat.reduceSub, Nat.reduceEqDiff, Nat.reduceLeDiff, Int32.reduceLT, Int32.reduceLE, Int32.reduceAdd, Int32.reduceSub, Int32.reduceMul, Int32.reduceToNatClampNeg, Int32.reduceOfNat, Int32.reduceOfInt, Int64.reduceLT, Int64.reduceAdd, Int64.reduceSub, Int64.reduceMul, String.reduceEq, reduceCtorEq, room_c, room_s, Nat.add_zero, heq, hz]
theorem st221_4_1 (i0 : Int32) (i1 : Int64) (n : Int32) (a0 a1 a2 a3 x0 x1 x2 x3 : Int32) (hx0 : nar .byte x0 = x0) (hx1 : nar .byte x1 = x1) (hx2 : nar .byte x2 = x2) (hx3 : nar .byte x3 = x3) (hk0 : a0 = 0 ∨ a0 = 1 ∨ a0 = 2 ∨ a0 = 3) (hk1 : a1 = 0 ∨ a1 = 1 ∨ a1 = 2 ∨ a1 = 3) (hk2 : a2 = 0 ∨ a2 = 1 ∨ a2 = 2 ∨ a2 = 3) (hk3 : a3 = 0 ∨ a3 = 1 ∨ a3 = 2 ∨ a3 = 3) (pre : List Int32) (hp : pre.length < 100) (s0 : Nat) (hs0 : s0 ≤ 128) :
    G0 l Z b (fun v _ => v = some (.int 1)) 221 [.val (.int i0), .val (.long i1), .second, .val (.int (4)), .val (.ref (ad b.size 0)), .val (.int (1)), .val (.int (Int32.ofNat pre.length)), .val (.ref (ad b.size 1)), .val (.int n), .val (.ref (ad b.size 2)), .unset] [] [.inl (.int, [.int a0, .int a1, .int a2, .int a3]), .inl (.byte, [.int x0, .int x1, .int x2, .int x3]), .inl (.byte, ivs (pre ++ List.replicate (sz a0 + (sz a1 + (sz a2 + (sz a3 + (1))))) 0))] 3 s0 := by
  have w0 := sz_le a0
  have w1 := sz_le a1
  have w2 := sz_le a2
  have w3 := sz_le a3
  have l0 := pie_len a0 x0
  have l1 := pie_len a1 x1
  have l2 := pie_len a2 x2
  have l3 := pie_len a3 x3
  have hz : (s0 ≤ 128) = True := eq_true hs0
  refine e0_221 200 ?_
  simp only [↓S0, ↓B0, ↓idx_c, ↓setN_c, ↓idxN_c, ↓repN_c, ↓reduceIte, B1, List.length_cons, List.length_nil, List.mem_cons, List.not_mem_nil, or_false, true_or, or_true, true_and, and_true, and_self, not_true_eq_false, not_false_eq_true, eq_self, ne_eq, Nat.zero_le, Nat.le_refl, Nat.reduceAdd, Nat.reduceSub, Nat.reduceEqDiff, Nat.reduceLeDiff, Int32.reduceLT, Int32.reduceLE, Int32.reduceAdd, Int32.reduceSub, Int32.reduceMul, Int32.reduceToNatClampNeg, Int32.reduceOfNat, Int32.reduceOfInt, Int64.reduceLT, Int64.reduceAdd, Int64.reduceSub, Int64.reduceMul, String.reduceEq, reduceCtorEq, room_c, room_s, Nat.add_zero]
  refine kf0_241 (con4 _ _ pre (sz a0 + (sz a1 + (sz a2 + (sz a3 + (1))))) a0 x0 hx0 hk0 (by omega) (by first | omega | (simp only [List.length_append]; omega))) ?_ (hs := by show s0 + 0 ≤ 128; omega)
  rw [Nat.add_sub_cancel_left]
  refine r0 200 ?_
  simp only [↓S0, ↓B0, ↓idx_c, ↓setN_c, ↓idxN_c, ↓repN_c, ↓reduceIte, B1, List.length_cons, List.length_nil, List.mem_cons, List.not_mem_nil, or_false, true_or, or_true, true_and, and_true, and_self, not_true_eq_false, not_false_eq_true, eq_self, ne_eq, Nat.zero_le, Nat.le_refl, Nat.reduceAdd, Nat.reduceSub, Nat.reduceEqDiff, Nat.reduceLeDiff, Int32.reduceLT, Int32.reduceLE, Int32.reduceAdd, Int32.reduceSub, Int32.reduceMul, Int32.reduceToNatClampNeg, Int32.reduceOfNat, Int32.reduceOfInt, Int64.reduceLT, Int64.reduceAdd, Int64.reduceSub, Int64.reduceMul, String.reduceEq, reduceCtorEq, room_c, room_s, Nat.add_zero]
  refine kf0_263 (con4 _ _ (pre ++ pie a0 x0) (sz a1 + (sz a2 + (sz a3 + (1)))) a1 x1 hx1 hk1 (by omega) (by first | omega | (simp only [List.length_append]; omega))) ?_ (hs := by show s0 + 0 ≤ 128; omega)
  rw [Nat.add_sub_cancel_left]
  refine r0 200 ?_
  simp only [↓S0, ↓B0, ↓idx_c, ↓setN_c, ↓idxN_c, ↓repN_c, ↓reduceIte, B1, List.length_cons, List.length_nil, List.mem_cons, List.not_mem_nil, or_false, true_or, or_true, true_and, and_true, and_self, not_true_eq_false, not_false_eq_true, eq_self, ne_eq, Nat.zero_le, Nat.le_refl, Nat.reduceAdd, Nat.reduceSub, Nat.reduceEqDiff, Nat.reduceLeDiff, Int32.reduceLT, Int32.reduceLE, Int32.reduceAdd, Int32.reduceSub, Int32.reduceMul, Int32.reduceToNatClampNeg, Int32.reduceOfNat, Int32.reduceOfInt, Int64.reduceLT, Int64.reduceAdd, Int64.reduceSub, Int64.reduceMul, String.reduceEq, reduceCtorEq, room_c, room_s, Nat.add_zero]
  refine kf0_285 (con4 _ _ ((pre ++ pie a0 x0) ++ pie a1 x1) (sz a2 + (sz a3 + (1))) a2 x2 hx2 hk2 (by omega) (by first | omega | (simp only [List.length_append]; omega))) ?_ (hs := by show s0 + 0 ≤ 128; omega)
  rw [Nat.add_sub_cancel_left]
  refine r0 200 ?_
  simp only [↓S0, ↓B0, ↓idx_c, ↓setN_c, ↓idxN_c, ↓repN_c, ↓reduceIte, B1, List.length_cons, List.length_nil, List.mem_cons, List.not_mem_nil, or_false, true_or, or_true, true_and, and_true, and_self, not_true_eq_false, not_false_eq_true, eq_self, ne_eq, Nat.zero_le, Nat.le_refl, Nat.reduceAdd, Nat.reduceSub, Nat.reduceEqDiff, Nat.reduceLeDiff, Int32.reduceLT, Int32.reduceLE, Int32.reduceAdd, Int32.reduceSub, Int32.reduceMul, Int32.reduceToNatClampNeg, Int32.reduceOfNat, Int32.reduceOfInt, Int64.reduceLT, Int64.reduceAdd, Int64.reduceSub, Int64.reduceMul, String.reduceEq, reduceCtorEq, room_c, room_s, Nat.add_zero]
  refine kf0_307 (con4 _ _ (((pre ++ pie a0 x0) ++ pie a1 x1) ++ pie a2 x2) (sz a3 + (1)) a3 x3 hx3 hk3 (by omega) (by first | omega | (simp only [List.length_append]; omega))) ?_ (hs := by show s0 + 0 ≤ 128; omega)
  rw [Nat.add_sub_cancel_left]
  refine r0 200 ?_
  obtain ⟨Q, hQ⟩ : ∃ Q, Q = ((((pre ++ pie a0 x0) ++ pie a1 x1) ++ pie a2 x2) ++ pie a3 x3) := ⟨_, rfl⟩
  have hQl : Q.length < 200 := by rw [hQ]; simp only [List.length_append]; omega
  rw [← hQ]
  rw [show List.replicate 1 (0 : Int32) = [0] from rfl]
  have g0 : Q.length < 2147483648 := by omega
  have g2 : Q.length < (Q ++ [(0 : Int32)]).length := by simp
  simp only [↓S0, ↓B0, ↓idxN_c, ↓repN_c, ↓reduceIte, B1, List.mem_cons, List.not_mem_nil, or_false, true_or, or_true, true_and, and_true, and_self, not_true_eq_false, not_false_eq_true, eq_self, ne_eq, Nat.zero_le, Nat.le_refl, Nat.reduceAdd, Nat.reduceSub, Nat.reduceEqDiff, Nat.reduceLeDiff, Int32.reduceLT, Int32.reduceLE, Int32.reduceAdd, Int32.reduceSub, Int32.reduceMul, Int32.reduceToNatClampNeg, Int32.reduceOfNat, Int32.reduceOfInt, Int64.reduceLT, Int64.reduceAdd, Int64.reduceSub, Int64.reduceMul, String.reduceEq, reduceCtorEq, room_c, room_s, ↓idx_iv g0 g2, ↓setN_d, onat_nat g0, n0, ivs_set, set_at, Nat.add_zero]
  rw [hQ, show ((((pre ++ pie a0 x0) ++ pie a1 x1) ++ pie a2 x2) ++ pie a3 x3) ++ ([0] : List Int32) = pre ++ (pie a0 x0 ++ (pie a1 x1 ++ (pie a2 x2 ++ (pie a3 x3 ++ [0])))) by simp only [List.append_assoc]]
  refine kf0_328 (con1 _ _ pre (pie a0 x0 ++ (pie a1 x1 ++ (pie a2 x2 ++ (pie a3 x3 ++ [0])))) (by simp only [List.length_append, List.length_cons, List.length_nil]; omega)) ?_ (hs := by show s0 + 0 ≤ 128; omega)
  refine r0 200 ?_
  simp only [↓S0, ↓B0, ↓idx_c, ↓setN_c, ↓idxN_c, ↓repN_c, ↓reduceIte, B1, List.mem_cons, List.not_mem_nil, or_false, true_or, or_true, true_and, and_true, and_self, not_true_eq_false, not_false_eq_true, eq_self, ne_eq, Nat.zero_le, Nat.le_refl, Nat.reduceAdd, Nat.reduceSub, Nat.reduceEqDiff, Nat.reduceLeDiff, Int32.reduceLT, Int32.reduceLE, Int32.reduceAdd, Int32.reduceSub, Int32.reduceMul, Int32.reduceToNatClampNeg, Int32.reduceOfNat, Int32.reduceOfInt, Int64.reduceLT, Int64.reduceAdd, Int64.reduceSub, Int64.reduceMul, String.reduceEq, reduceCtorEq, room_c, room_s, Nat.add_zero]
  refine kf0_336 (con2_4 _ _ a0 a1 a2 a3 pre.length) ?_ (hs := by show s0 + 0 ≤ 128; omega)
  refine r0 200 ?_
  have heq : eo (pie a0 x0 ++ (pie a1 x1 ++ (pie a2 x2 ++ (pie a3 x3 ++ [0])))) pre.length = exq [a0, a1, a2, a3] pre.length := by
    simp only [exq, eo_pie a0 x0 hk0, eo_pie a1 x1 hk1, eo_pie a2 x2 hk2, eo_pie a3 x3 hk3, eo]
  simp only [↓S0, ↓B0, ↓idx_c, ↓setN_c, ↓idxN_c, ↓repN_c, ↓reduceIte, B1, List.mem_cons, List.not_mem_nil, or_false, true_or, or_true, true_and, and_true, and_self, not_true_eq_false, not_false_eq_true, eq_self, ne_eq, Nat.zero_le, Nat.le_refl, Nat.reduceAdd, Nat.reduceSub, Nat.reduceEqDiff, Nat.reduceLeDiff, Int32.reduceLT, Int32.reduceLE, Int32.reduceAdd, Int32.reduceSub, Int32.reduceMul, Int32.reduceToNatClampNeg, Int32.reduceOfNat, Int32.reduceOfInt, Int64.reduceLT, Int64.reduceAdd, Int64.reduceSub, Int64.reduceMul, String.reduceEq, reduceCtorEq, room_c, room_s, Nat.add_zero, heq, hz]
theorem st187_0 (i0 : Int32) (i1 : Int64) (c lo : Int32) (a0 a1 a2 a3 x0 x1 x2 x3 : Int32) (m N : Nat) (hm : m ≤ 20) (hN : N = m + 0)
    (h : ∀ (pre : List Int32), pre.length = 0 → ∀ s0, s0 ≤ 128 → G0 l Z b (fun v _ => v = some (.int 1)) 221 [.val (.int i0), .val (.long i1), .second, .val (.int (c)), .val (.ref (ad b.size 0)), .val (.int (lo)), .val (.int (Int32.ofNat pre.length)), .val (.ref (ad b.size 1)), .val (.int (Int32.ofNat N)), .val (.ref (ad b.size 2)), .unset] [] [.inl (.int, [.int a0, .int a1, .int a2, .int a3]), .inl (.byte, [.int x0, .int x1, .int x2, .int x3]), .inl (.byte, ivs (pre ++ List.replicate m 0))] 3 s0) :
    G0 l Z b (fun v _ => v = some (.int 1)) 187 [.val (.int i0), .val (.long i1), .second, .val (.int (c)), .val (.ref (ad b.size 0)), .val (.int (lo)), .val (.int (0)), .val (.ref (ad b.size 1)), .val (.int (Int32.ofNat N)), .unset, .unset] [] [.inl (.int, [.int a0, .int a1, .int a2, .int a3]), .inl (.byte, [.int x0, .int x1, .int x2, .int x3])] 2 8 := by
  have g0 : N < 2147483648 := by omega
  have q1 : (N ≤ 65536) = True := eq_true (by omega)
  have q2 : (8 + N ≤ 128) = True := eq_true (by omega)
  have q3 := onat_nn g0
  have hr : ∀ {f : List Value → Prop}, repN (Int32.ofNat N).toNatClampNeg (.int 0) f = f (List.replicate m (.int 0)) := fun {f} => by
    rw [onat_nat g0, hN]; rfl
  refine e0_187 200 ?_
  simp only [↓S0, ↓B0, ↓idx_c, ↓setN_c, ↓idxN_c, ↓reduceIte, B1, List.length_cons, List.length_nil, List.mem_cons, List.not_mem_nil, or_false, true_or, or_true, true_and, and_true, and_self, not_true_eq_false, not_false_eq_true, eq_self, ne_eq, Nat.zero_le, Nat.le_refl, Nat.reduceAdd, Nat.reduceSub, Nat.reduceEqDiff, Nat.reduceLeDiff, Int32.reduceLT, Int32.reduceLE, Int32.reduceAdd, Int32.reduceSub, Int32.reduceMul, Int32.reduceToNatClampNeg, Int32.reduceOfNat, Int32.reduceOfInt, Int64.reduceLT, Int64.reduceAdd, Int64.reduceSub, Int64.reduceMul, String.reduceEq, reduceCtorEq, room_c, room_s, ↓hr, q3, onat_nat g0, q1, q2]
  have key := h [] rfl (8 + N) (by omega)
  rw [show ivs ([] ++ List.replicate m 0) = List.replicate m (.int 0) by simp [ivs]] at key
  exact key
theorem st187_1 (i0 : Int32) (i1 : Int64) (c lo : Int32) (a0 a1 a2 a3 x0 x1 x2 x3 : Int32) (m N : Nat) (hm : m ≤ 20) (hN : N = m + 1)
    (h : ∀ (pre : List Int32), pre.length = 1 → ∀ s0, s0 ≤ 128 → G0 l Z b (fun v _ => v = some (.int 1)) 221 [.val (.int i0), .val (.long i1), .second, .val (.int (c)), .val (.ref (ad b.size 0)), .val (.int (lo)), .val (.int (Int32.ofNat pre.length)), .val (.ref (ad b.size 1)), .val (.int (Int32.ofNat N)), .val (.ref (ad b.size 2)), .unset] [] [.inl (.int, [.int a0, .int a1, .int a2, .int a3]), .inl (.byte, [.int x0, .int x1, .int x2, .int x3]), .inl (.byte, ivs (pre ++ List.replicate m 0))] 3 s0) :
    G0 l Z b (fun v _ => v = some (.int 1)) 187 [.val (.int i0), .val (.long i1), .second, .val (.int (c)), .val (.ref (ad b.size 0)), .val (.int (lo)), .val (.int (1)), .val (.ref (ad b.size 1)), .val (.int (Int32.ofNat N)), .unset, .unset] [] [.inl (.int, [.int a0, .int a1, .int a2, .int a3]), .inl (.byte, [.int x0, .int x1, .int x2, .int x3])] 2 8 := by
  have g0 : N < 2147483648 := by omega
  have q1 : (N ≤ 65536) = True := eq_true (by omega)
  have q2 : (8 + N ≤ 128) = True := eq_true (by omega)
  have q3 := onat_nn g0
  have hr : ∀ {f : List Value → Prop}, repN (Int32.ofNat N).toNatClampNeg (.int 0) f = f (.int 0 :: List.replicate m (.int 0)) := fun {f} => by
    rw [onat_nat g0, hN]; rfl
  refine e0_187 200 ?_
  simp only [↓S0, ↓B0, ↓idx_c, ↓setN_c, ↓idxN_c, ↓reduceIte, B1, List.length_cons, List.length_nil, List.mem_cons, List.not_mem_nil, or_false, true_or, or_true, true_and, and_true, and_self, not_true_eq_false, not_false_eq_true, eq_self, ne_eq, Nat.zero_le, Nat.le_refl, Nat.reduceAdd, Nat.reduceSub, Nat.reduceEqDiff, Nat.reduceLeDiff, Int32.reduceLT, Int32.reduceLE, Int32.reduceAdd, Int32.reduceSub, Int32.reduceMul, Int32.reduceToNatClampNeg, Int32.reduceOfNat, Int32.reduceOfInt, Int64.reduceLT, Int64.reduceAdd, Int64.reduceSub, Int64.reduceMul, String.reduceEq, reduceCtorEq, room_c, room_s, ↓hr, q3, onat_nat g0, q1, q2]
  have key := h [nar .byte i1.toInt32] rfl (8 + N) (by omega)
  rw [show ivs ([nar .byte i1.toInt32] ++ List.replicate m 0) = .int (nar .byte i1.toInt32) :: List.replicate m (.int 0) by simp [ivs]] at key
  exact key
theorem st187_2 (i0 : Int32) (i1 : Int64) (c lo : Int32) (a0 a1 a2 a3 x0 x1 x2 x3 : Int32) (m N : Nat) (hm : m ≤ 20) (hN : N = m + 2)
    (h : ∀ (pre : List Int32), pre.length = 2 → ∀ s0, s0 ≤ 128 → G0 l Z b (fun v _ => v = some (.int 1)) 221 [.val (.int i0), .val (.long i1), .second, .val (.int (c)), .val (.ref (ad b.size 0)), .val (.int (lo)), .val (.int (Int32.ofNat pre.length)), .val (.ref (ad b.size 1)), .val (.int (Int32.ofNat N)), .val (.ref (ad b.size 2)), .unset] [] [.inl (.int, [.int a0, .int a1, .int a2, .int a3]), .inl (.byte, [.int x0, .int x1, .int x2, .int x3]), .inl (.byte, ivs (pre ++ List.replicate m 0))] 3 s0) :
    G0 l Z b (fun v _ => v = some (.int 1)) 187 [.val (.int i0), .val (.long i1), .second, .val (.int (c)), .val (.ref (ad b.size 0)), .val (.int (lo)), .val (.int (2)), .val (.ref (ad b.size 1)), .val (.int (Int32.ofNat N)), .unset, .unset] [] [.inl (.int, [.int a0, .int a1, .int a2, .int a3]), .inl (.byte, [.int x0, .int x1, .int x2, .int x3])] 2 8 := by
  have g0 : N < 2147483648 := by omega
  have q1 : (N ≤ 65536) = True := eq_true (by omega)
  have q2 : (8 + N ≤ 128) = True := eq_true (by omega)
  have q3 := onat_nn g0
  have hr : ∀ {f : List Value → Prop}, repN (Int32.ofNat N).toNatClampNeg (.int 0) f = f (.int 0 :: .int 0 :: List.replicate m (.int 0)) := fun {f} => by
    rw [onat_nat g0, hN]; rfl
  refine e0_187 200 ?_
  simp only [↓S0, ↓B0, ↓idx_c, ↓setN_c, ↓idxN_c, ↓reduceIte, B1, List.length_cons, List.length_nil, List.mem_cons, List.not_mem_nil, or_false, true_or, or_true, true_and, and_true, and_self, not_true_eq_false, not_false_eq_true, eq_self, ne_eq, Nat.zero_le, Nat.le_refl, Nat.reduceAdd, Nat.reduceSub, Nat.reduceEqDiff, Nat.reduceLeDiff, Int32.reduceLT, Int32.reduceLE, Int32.reduceAdd, Int32.reduceSub, Int32.reduceMul, Int32.reduceToNatClampNeg, Int32.reduceOfNat, Int32.reduceOfInt, Int64.reduceLT, Int64.reduceAdd, Int64.reduceSub, Int64.reduceMul, String.reduceEq, reduceCtorEq, room_c, room_s, ↓hr, q3, onat_nat g0, q1, q2]
  have key := h [nar .byte i1.toInt32, nar .byte (XT.ushrL i1 8).toInt32] rfl (8 + N) (by omega)
  rw [show ivs ([nar .byte i1.toInt32, nar .byte (XT.ushrL i1 8).toInt32] ++ List.replicate m 0) = .int (nar .byte i1.toInt32) :: .int (nar .byte (XT.ushrL i1 8).toInt32) :: List.replicate m (.int 0) by simp [ivs]] at key
  exact key
theorem st113_0 (i0 : Int32) (i1 : Int64) (P Lo : Nat) (a0 a1 a2 a3 x0 x1 x2 x3 : Int32)
    (h : G0 l Z b (fun v _ => v = some (.int 1)) 187 [.val (.int i0), .val (.long i1), .second, .val (.int (0)), .val (.ref (ad b.size 0)), .val (.int (Int32.ofNat Lo)), .val (.int (Int32.ofNat P)), .val (.ref (ad b.size 1)), .val (.int (Int32.ofNat (P + Lo))), .unset, .unset] [] [.inl (.int, [.int a0, .int a1, .int a2, .int a3]), .inl (.byte, [.int x0, .int x1, .int x2, .int x3])] 2 8) :
    G0 l Z b (fun v _ => v = some (.int 1)) 113 [.val (.int i0), .val (.long i1), .second, .val (.int (0)), .val (.ref (ad b.size 0)), .val (.int (Int32.ofNat Lo)), .val (.int (Int32.ofNat P)), .val (.ref (ad b.size 1)), .unset, .unset, .unset] [] [.inl (.int, [.int a0, .int a1, .int a2, .int a3]), .inl (.byte, [.int x0, .int x1, .int x2, .int x3])] 2 8 := by
  refine e0_113 100 ?_
  simp only [↓S0, ↓B0, ↓idx_c, ↓setN_c, ↓idxN_c, ↓repN_c, ↓reduceIte, B1, List.length_cons, List.length_nil, List.mem_cons, List.not_mem_nil, or_false, true_or, or_true, true_and, and_true, and_self, not_true_eq_false, not_false_eq_true, eq_self, ne_eq, Nat.zero_le, Nat.le_refl, Nat.reduceAdd, Nat.reduceSub, Nat.reduceEqDiff, Nat.reduceLeDiff, Int32.reduceLT, Int32.reduceLE, Int32.reduceAdd, Int32.reduceSub, Int32.reduceMul, Int32.reduceToNatClampNeg, Int32.reduceOfNat, Int32.reduceOfInt, Int64.reduceLT, Int64.reduceAdd, Int64.reduceSub, Int64.reduceMul, String.reduceEq, reduceCtorEq, room_c, room_s, onat_add]
  exact h
theorem st113_1 (i0 : Int32) (i1 : Int64) (P Lo : Nat) (a0 a1 a2 a3 x0 x1 x2 x3 : Int32)
    (h : G0 l Z b (fun v _ => v = some (.int 1)) 187 [.val (.int i0), .val (.long i1), .second, .val (.int (1)), .val (.ref (ad b.size 0)), .val (.int (Int32.ofNat Lo)), .val (.int (Int32.ofNat P)), .val (.ref (ad b.size 1)), .val (.int (Int32.ofNat (P + Lo + sz a0))), .unset, .unset] [] [.inl (.int, [.int a0, .int a1, .int a2, .int a3]), .inl (.byte, [.int x0, .int x1, .int x2, .int x3])] 2 8) :
    G0 l Z b (fun v _ => v = some (.int 1)) 113 [.val (.int i0), .val (.long i1), .second, .val (.int (1)), .val (.ref (ad b.size 0)), .val (.int (Int32.ofNat Lo)), .val (.int (Int32.ofNat P)), .val (.ref (ad b.size 1)), .unset, .unset, .unset] [] [.inl (.int, [.int a0, .int a1, .int a2, .int a3]), .inl (.byte, [.int x0, .int x1, .int x2, .int x3])] 2 8 := by
  refine e0_113 100 ?_
  simp only [↓S0, ↓B0, ↓idx_c, ↓setN_c, ↓idxN_c, ↓repN_c, ↓reduceIte, B1, List.length_cons, List.length_nil, List.mem_cons, List.not_mem_nil, or_false, true_or, or_true, true_and, and_true, and_self, not_true_eq_false, not_false_eq_true, eq_self, ne_eq, Nat.zero_le, Nat.le_refl, Nat.reduceAdd, Nat.reduceSub, Nat.reduceEqDiff, Nat.reduceLeDiff, Int32.reduceLT, Int32.reduceLE, Int32.reduceAdd, Int32.reduceSub, Int32.reduceMul, Int32.reduceToNatClampNeg, Int32.reduceOfNat, Int32.reduceOfInt, Int64.reduceLT, Int64.reduceAdd, Int64.reduceSub, Int64.reduceMul, String.reduceEq, reduceCtorEq, room_c, room_s, onat_add]
  refine kf0_130 (con3 _) (r0 100 ?_)
  simp only [↓S0, ↓B0, ↓idx_c, ↓setN_c, ↓idxN_c, ↓repN_c, ↓reduceIte, B1, List.length_cons, List.length_nil, List.mem_cons, List.not_mem_nil, or_false, true_or, or_true, true_and, and_true, and_self, not_true_eq_false, not_false_eq_true, eq_self, ne_eq, Nat.zero_le, Nat.le_refl, Nat.reduceAdd, Nat.reduceSub, Nat.reduceEqDiff, Nat.reduceLeDiff, Int32.reduceLT, Int32.reduceLE, Int32.reduceAdd, Int32.reduceSub, Int32.reduceMul, Int32.reduceToNatClampNeg, Int32.reduceOfNat, Int32.reduceOfInt, Int64.reduceLT, Int64.reduceAdd, Int64.reduceSub, Int64.reduceMul, String.reduceEq, reduceCtorEq, room_c, room_s, onat_add]
  exact h
theorem st113_2 (i0 : Int32) (i1 : Int64) (P Lo : Nat) (a0 a1 a2 a3 x0 x1 x2 x3 : Int32)
    (h : G0 l Z b (fun v _ => v = some (.int 1)) 187 [.val (.int i0), .val (.long i1), .second, .val (.int (2)), .val (.ref (ad b.size 0)), .val (.int (Int32.ofNat Lo)), .val (.int (Int32.ofNat P)), .val (.ref (ad b.size 1)), .val (.int (Int32.ofNat (P + Lo + sz a0 + sz a1))), .unset, .unset] [] [.inl (.int, [.int a0, .int a1, .int a2, .int a3]), .inl (.byte, [.int x0, .int x1, .int x2, .int x3])] 2 8) :
    G0 l Z b (fun v _ => v = some (.int 1)) 113 [.val (.int i0), .val (.long i1), .second, .val (.int (2)), .val (.ref (ad b.size 0)), .val (.int (Int32.ofNat Lo)), .val (.int (Int32.ofNat P)), .val (.ref (ad b.size 1)), .unset, .unset, .unset] [] [.inl (.int, [.int a0, .int a1, .int a2, .int a3]), .inl (.byte, [.int x0, .int x1, .int x2, .int x3])] 2 8 := by
  refine e0_113 100 ?_
  simp only [↓S0, ↓B0, ↓idx_c, ↓setN_c, ↓idxN_c, ↓repN_c, ↓reduceIte, B1, List.length_cons, List.length_nil, List.mem_cons, List.not_mem_nil, or_false, true_or, or_true, true_and, and_true, and_self, not_true_eq_false, not_false_eq_true, eq_self, ne_eq, Nat.zero_le, Nat.le_refl, Nat.reduceAdd, Nat.reduceSub, Nat.reduceEqDiff, Nat.reduceLeDiff, Int32.reduceLT, Int32.reduceLE, Int32.reduceAdd, Int32.reduceSub, Int32.reduceMul, Int32.reduceToNatClampNeg, Int32.reduceOfNat, Int32.reduceOfInt, Int64.reduceLT, Int64.reduceAdd, Int64.reduceSub, Int64.reduceMul, String.reduceEq, reduceCtorEq, room_c, room_s, onat_add]
  refine kf0_130 (con3 _) (r0 100 ?_)
  simp only [↓S0, ↓B0, ↓idx_c, ↓setN_c, ↓idxN_c, ↓repN_c, ↓reduceIte, B1, List.length_cons, List.length_nil, List.mem_cons, List.not_mem_nil, or_false, true_or, or_true, true_and, and_true, and_self, not_true_eq_false, not_false_eq_true, eq_self, ne_eq, Nat.zero_le, Nat.le_refl, Nat.reduceAdd, Nat.reduceSub, Nat.reduceEqDiff, Nat.reduceLeDiff, Int32.reduceLT, Int32.reduceLE, Int32.reduceAdd, Int32.reduceSub, Int32.reduceMul, Int32.reduceToNatClampNeg, Int32.reduceOfNat, Int32.reduceOfInt, Int64.reduceLT, Int64.reduceAdd, Int64.reduceSub, Int64.reduceMul, String.reduceEq, reduceCtorEq, room_c, room_s, onat_add]
  refine kf0_147 (con3 _) (r0 100 ?_)
  simp only [↓S0, ↓B0, ↓idx_c, ↓setN_c, ↓idxN_c, ↓repN_c, ↓reduceIte, B1, List.length_cons, List.length_nil, List.mem_cons, List.not_mem_nil, or_false, true_or, or_true, true_and, and_true, and_self, not_true_eq_false, not_false_eq_true, eq_self, ne_eq, Nat.zero_le, Nat.le_refl, Nat.reduceAdd, Nat.reduceSub, Nat.reduceEqDiff, Nat.reduceLeDiff, Int32.reduceLT, Int32.reduceLE, Int32.reduceAdd, Int32.reduceSub, Int32.reduceMul, Int32.reduceToNatClampNeg, Int32.reduceOfNat, Int32.reduceOfInt, Int64.reduceLT, Int64.reduceAdd, Int64.reduceSub, Int64.reduceMul, String.reduceEq, reduceCtorEq, room_c, room_s, onat_add]
  exact h
theorem st113_3 (i0 : Int32) (i1 : Int64) (P Lo : Nat) (a0 a1 a2 a3 x0 x1 x2 x3 : Int32)
    (h : G0 l Z b (fun v _ => v = some (.int 1)) 187 [.val (.int i0), .val (.long i1), .second, .val (.int (3)), .val (.ref (ad b.size 0)), .val (.int (Int32.ofNat Lo)), .val (.int (Int32.ofNat P)), .val (.ref (ad b.size 1)), .val (.int (Int32.ofNat (P + Lo + sz a0 + sz a1 + sz a2))), .unset, .unset] [] [.inl (.int, [.int a0, .int a1, .int a2, .int a3]), .inl (.byte, [.int x0, .int x1, .int x2, .int x3])] 2 8) :
    G0 l Z b (fun v _ => v = some (.int 1)) 113 [.val (.int i0), .val (.long i1), .second, .val (.int (3)), .val (.ref (ad b.size 0)), .val (.int (Int32.ofNat Lo)), .val (.int (Int32.ofNat P)), .val (.ref (ad b.size 1)), .unset, .unset, .unset] [] [.inl (.int, [.int a0, .int a1, .int a2, .int a3]), .inl (.byte, [.int x0, .int x1, .int x2, .int x3])] 2 8 := by
  refine e0_113 100 ?_
  simp only [↓S0, ↓B0, ↓idx_c, ↓setN_c, ↓idxN_c, ↓repN_c, ↓reduceIte, B1, List.length_cons, List.length_nil, List.mem_cons, List.not_mem_nil, or_false, true_or, or_true, true_and, and_true, and_self, not_true_eq_false, not_false_eq_true, eq_self, ne_eq, Nat.zero_le, Nat.le_refl, Nat.reduceAdd, Nat.reduceSub, Nat.reduceEqDiff, Nat.reduceLeDiff, Int32.reduceLT, Int32.reduceLE, Int32.reduceAdd, Int32.reduceSub, Int32.reduceMul, Int32.reduceToNatClampNeg, Int32.reduceOfNat, Int32.reduceOfInt, Int64.reduceLT, Int64.reduceAdd, Int64.reduceSub, Int64.reduceMul, String.reduceEq, reduceCtorEq, room_c, room_s, onat_add]
  refine kf0_130 (con3 _) (r0 100 ?_)
  simp only [↓S0, ↓B0, ↓idx_c, ↓setN_c, ↓idxN_c, ↓repN_c, ↓reduceIte, B1, List.length_cons, List.length_nil, List.mem_cons, List.not_mem_nil, or_false, true_or, or_true, true_and, and_true, and_self, not_true_eq_false, not_false_eq_true, eq_self, ne_eq, Nat.zero_le, Nat.le_refl, Nat.reduceAdd, Nat.reduceSub, Nat.reduceEqDiff, Nat.reduceLeDiff, Int32.reduceLT, Int32.reduceLE, Int32.reduceAdd, Int32.reduceSub, Int32.reduceMul, Int32.reduceToNatClampNeg, Int32.reduceOfNat, Int32.reduceOfInt, Int64.reduceLT, Int64.reduceAdd, Int64.reduceSub, Int64.reduceMul, String.reduceEq, reduceCtorEq, room_c, room_s, onat_add]
  refine kf0_147 (con3 _) (r0 100 ?_)
  simp only [↓S0, ↓B0, ↓idx_c, ↓setN_c, ↓idxN_c, ↓repN_c, ↓reduceIte, B1, List.length_cons, List.length_nil, List.mem_cons, List.not_mem_nil, or_false, true_or, or_true, true_and, and_true, and_self, not_true_eq_false, not_false_eq_true, eq_self, ne_eq, Nat.zero_le, Nat.le_refl, Nat.reduceAdd, Nat.reduceSub, Nat.reduceEqDiff, Nat.reduceLeDiff, Int32.reduceLT, Int32.reduceLE, Int32.reduceAdd, Int32.reduceSub, Int32.reduceMul, Int32.reduceToNatClampNeg, Int32.reduceOfNat, Int32.reduceOfInt, Int64.reduceLT, Int64.reduceAdd, Int64.reduceSub, Int64.reduceMul, String.reduceEq, reduceCtorEq, room_c, room_s, onat_add]
  refine kf0_164 (con3 _) (r0 100 ?_)
  simp only [↓S0, ↓B0, ↓idx_c, ↓setN_c, ↓idxN_c, ↓repN_c, ↓reduceIte, B1, List.length_cons, List.length_nil, List.mem_cons, List.not_mem_nil, or_false, true_or, or_true, true_and, and_true, and_self, not_true_eq_false, not_false_eq_true, eq_self, ne_eq, Nat.zero_le, Nat.le_refl, Nat.reduceAdd, Nat.reduceSub, Nat.reduceEqDiff, Nat.reduceLeDiff, Int32.reduceLT, Int32.reduceLE, Int32.reduceAdd, Int32.reduceSub, Int32.reduceMul, Int32.reduceToNatClampNeg, Int32.reduceOfNat, Int32.reduceOfInt, Int64.reduceLT, Int64.reduceAdd, Int64.reduceSub, Int64.reduceMul, String.reduceEq, reduceCtorEq, room_c, room_s, onat_add]
  exact h
theorem st113_4 (i0 : Int32) (i1 : Int64) (P Lo : Nat) (a0 a1 a2 a3 x0 x1 x2 x3 : Int32)
    (h : G0 l Z b (fun v _ => v = some (.int 1)) 187 [.val (.int i0), .val (.long i1), .second, .val (.int (4)), .val (.ref (ad b.size 0)), .val (.int (Int32.ofNat Lo)), .val (.int (Int32.ofNat P)), .val (.ref (ad b.size 1)), .val (.int (Int32.ofNat (P + Lo + sz a0 + sz a1 + sz a2 + sz a3))), .unset, .unset] [] [.inl (.int, [.int a0, .int a1, .int a2, .int a3]), .inl (.byte, [.int x0, .int x1, .int x2, .int x3])] 2 8) :
    G0 l Z b (fun v _ => v = some (.int 1)) 113 [.val (.int i0), .val (.long i1), .second, .val (.int (4)), .val (.ref (ad b.size 0)), .val (.int (Int32.ofNat Lo)), .val (.int (Int32.ofNat P)), .val (.ref (ad b.size 1)), .unset, .unset, .unset] [] [.inl (.int, [.int a0, .int a1, .int a2, .int a3]), .inl (.byte, [.int x0, .int x1, .int x2, .int x3])] 2 8 := by
  refine e0_113 100 ?_
  simp only [↓S0, ↓B0, ↓idx_c, ↓setN_c, ↓idxN_c, ↓repN_c, ↓reduceIte, B1, List.length_cons, List.length_nil, List.mem_cons, List.not_mem_nil, or_false, true_or, or_true, true_and, and_true, and_self, not_true_eq_false, not_false_eq_true, eq_self, ne_eq, Nat.zero_le, Nat.le_refl, Nat.reduceAdd, Nat.reduceSub, Nat.reduceEqDiff, Nat.reduceLeDiff, Int32.reduceLT, Int32.reduceLE, Int32.reduceAdd, Int32.reduceSub, Int32.reduceMul, Int32.reduceToNatClampNeg, Int32.reduceOfNat, Int32.reduceOfInt, Int64.reduceLT, Int64.reduceAdd, Int64.reduceSub, Int64.reduceMul, String.reduceEq, reduceCtorEq, room_c, room_s, onat_add]
  refine kf0_130 (con3 _) (r0 100 ?_)
  simp only [↓S0, ↓B0, ↓idx_c, ↓setN_c, ↓idxN_c, ↓repN_c, ↓reduceIte, B1, List.length_cons, List.length_nil, List.mem_cons, List.not_mem_nil, or_false, true_or, or_true, true_and, and_true, and_self, not_true_eq_false, not_false_eq_true, eq_self, ne_eq, Nat.zero_le, Nat.le_refl, Nat.reduceAdd, Nat.reduceSub, Nat.reduceEqDiff, Nat.reduceLeDiff, Int32.reduceLT, Int32.reduceLE, Int32.reduceAdd, Int32.reduceSub, Int32.reduceMul, Int32.reduceToNatClampNeg, Int32.reduceOfNat, Int32.reduceOfInt, Int64.reduceLT, Int64.reduceAdd, Int64.reduceSub, Int64.reduceMul, String.reduceEq, reduceCtorEq, room_c, room_s, onat_add]
  refine kf0_147 (con3 _) (r0 100 ?_)
  simp only [↓S0, ↓B0, ↓idx_c, ↓setN_c, ↓idxN_c, ↓repN_c, ↓reduceIte, B1, List.length_cons, List.length_nil, List.mem_cons, List.not_mem_nil, or_false, true_or, or_true, true_and, and_true, and_self, not_true_eq_false, not_false_eq_true, eq_self, ne_eq, Nat.zero_le, Nat.le_refl, Nat.reduceAdd, Nat.reduceSub, Nat.reduceEqDiff, Nat.reduceLeDiff, Int32.reduceLT, Int32.reduceLE, Int32.reduceAdd, Int32.reduceSub, Int32.reduceMul, Int32.reduceToNatClampNeg, Int32.reduceOfNat, Int32.reduceOfInt, Int64.reduceLT, Int64.reduceAdd, Int64.reduceSub, Int64.reduceMul, String.reduceEq, reduceCtorEq, room_c, room_s, onat_add]
  refine kf0_164 (con3 _) (r0 100 ?_)
  simp only [↓S0, ↓B0, ↓idx_c, ↓setN_c, ↓idxN_c, ↓repN_c, ↓reduceIte, B1, List.length_cons, List.length_nil, List.mem_cons, List.not_mem_nil, or_false, true_or, or_true, true_and, and_true, and_self, not_true_eq_false, not_false_eq_true, eq_self, ne_eq, Nat.zero_le, Nat.le_refl, Nat.reduceAdd, Nat.reduceSub, Nat.reduceEqDiff, Nat.reduceLeDiff, Int32.reduceLT, Int32.reduceLE, Int32.reduceAdd, Int32.reduceSub, Int32.reduceMul, Int32.reduceToNatClampNeg, Int32.reduceOfNat, Int32.reduceOfInt, Int64.reduceLT, Int64.reduceAdd, Int64.reduceSub, Int64.reduceMul, String.reduceEq, reduceCtorEq, room_c, room_s, onat_add]
  refine kf0_181 (con3 _) (r0 100 ?_)
  simp only [↓S0, ↓B0, ↓idx_c, ↓setN_c, ↓idxN_c, ↓repN_c, ↓reduceIte, B1, List.length_cons, List.length_nil, List.mem_cons, List.not_mem_nil, or_false, true_or, or_true, true_and, and_true, and_self, not_true_eq_false, not_false_eq_true, eq_self, ne_eq, Nat.zero_le, Nat.le_refl, Nat.reduceAdd, Nat.reduceSub, Nat.reduceEqDiff, Nat.reduceLeDiff, Int32.reduceLT, Int32.reduceLE, Int32.reduceAdd, Int32.reduceSub, Int32.reduceMul, Int32.reduceToNatClampNeg, Int32.reduceOfNat, Int32.reduceOfInt, Int64.reduceLT, Int64.reduceAdd, Int64.reduceSub, Int64.reduceMul, String.reduceEq, reduceCtorEq, room_c, room_s, onat_add]
  exact h
theorem three (x : Int32) (n : Int32) : (XT.ushr x n &&& 3 = 0 ∨ XT.ushr x n &&& 3 = 1 ∨ XT.ushr x n &&& 3 = 2 ∨ XT.ushr x n &&& 3 = 3) := by
  have e : (XT.ushr x n &&& 3).toInt = (XT.ushr x n).toInt % 2 ^ 2 := Jvm.Kit.i32_mask _ _ (k := 2) (by decide) (by decide)
  exact cases4 (by omega) (by omega)
end Own
theorem law (l : Launch) (Z : State) (b : Heap) (i0 : Int32) (i1 : Int64) : G0 l Z b (fun v _ => v = some (.int 1)) 0 [.val (.int i0), .val (.long i1), .second, .unset, .unset, .unset, .unset, .unset, .unset, .unset, .unset] [] [] 0 0 := by
  have e1 : (i0 &&& 7).toInt = i0.toInt % 2 ^ 3 := Jvm.Kit.i32_mask _ _ (k := 3) (by decide) (by decide)
  have e2 : (remI (i0 &&& 7) 5).toInt = (i0 &&& 7).toInt % 5 := rem_nn (by omega)
  have e3 : (XT.ushr i0 11 &&& 1).toInt = (XT.ushr i0 11).toInt % 2 ^ 1 := Jvm.Kit.i32_mask _ _ (k := 1) (by decide) (by decide)
  have e4 : (XT.ushr i0 12 &&& 3).toInt = (XT.ushr i0 12).toInt % 2 ^ 2 := Jvm.Kit.i32_mask _ _ (k := 2) (by decide) (by decide)
  have e5 : (remI (XT.ushr i0 12 &&& 3) 3).toInt = (XT.ushr i0 12 &&& 3).toInt % 3 := rem_nn (by omega)
  have hk0 := three i0 3
  have hk1 := three i0 5
  have hk2 := three i0 7
  have hk3 := three i0 9
  have w0 := sz_le (XT.ushr i0 3 &&& 3)
  have w1 := sz_le (XT.ushr i0 5 &&& 3)
  have w2 := sz_le (XT.ushr i0 7 &&& 3)
  have w3 := sz_le (XT.ushr i0 9 &&& 3)
  refine r0 300 ?_
  simp only [↓S0, ↓B0, ↓idx_c, ↓setN_c, ↓idxN_c, ↓repN_c, ↓reduceIte, B1, List.length_cons, List.length_nil, List.mem_cons, List.not_mem_nil, or_false, true_or, or_true, true_and, and_true, and_self, not_true_eq_false, not_false_eq_true, eq_self, ne_eq, Nat.zero_le, Nat.le_refl, Nat.reduceAdd, Nat.reduceSub, Nat.reduceEqDiff, Nat.reduceLeDiff, Int32.reduceLT, Int32.reduceLE, Int32.reduceAdd, Int32.reduceSub, Int32.reduceMul, Int32.reduceToNatClampNeg, Int32.reduceOfNat, Int32.reduceOfInt, Int64.reduceLT, Int64.reduceAdd, Int64.reduceSub, Int64.reduceMul, String.reduceEq, reduceCtorEq, room_c, room_s]
  rcases cases5 (v := remI (i0 &&& 7) 5) (by omega) (by omega) with hc | hc | hc | hc | hc <;> rw [hc] <;> rcases cases2 (v := XT.ushr i0 11 &&& 1) (by omega) (by omega) with hl | hl <;> rw [hl] <;> rcases cases3 (v := remI (XT.ushr i0 12 &&& 3) 3) (by omega) (by omega) with hp | hp | hp <;> rw [hp]
  · exact st113_0 _ _ 0 0 _ _ _ _ _ _ _ _ (st187_0 _ _ _ _ _ _ _ _ _ _ _ _ (0) _ (by omega) (by omega) fun pre hpre s0 hs0 => st221_0_0 _ _ _ _ _ _ _ _ _ _ _ nar_bb nar_bb nar_bb nar_bb hk0 hk1 hk2 hk3 pre (by omega) s0 hs0)
  · exact st113_0 _ _ 1 0 _ _ _ _ _ _ _ _ (st187_1 _ _ _ _ _ _ _ _ _ _ _ _ (0) _ (by omega) (by omega) fun pre hpre s0 hs0 => st221_0_0 _ _ _ _ _ _ _ _ _ _ _ nar_bb nar_bb nar_bb nar_bb hk0 hk1 hk2 hk3 pre (by omega) s0 hs0)
  · exact st113_0 _ _ 2 0 _ _ _ _ _ _ _ _ (st187_2 _ _ _ _ _ _ _ _ _ _ _ _ (0) _ (by omega) (by omega) fun pre hpre s0 hs0 => st221_0_0 _ _ _ _ _ _ _ _ _ _ _ nar_bb nar_bb nar_bb nar_bb hk0 hk1 hk2 hk3 pre (by omega) s0 hs0)
  · exact st113_0 _ _ 0 1 _ _ _ _ _ _ _ _ (st187_0 _ _ _ _ _ _ _ _ _ _ _ _ (1) _ (by omega) (by omega) fun pre hpre s0 hs0 => st221_0_1 _ _ _ _ _ _ _ _ _ _ _ nar_bb nar_bb nar_bb nar_bb hk0 hk1 hk2 hk3 pre (by omega) s0 hs0)
  · exact st113_0 _ _ 1 1 _ _ _ _ _ _ _ _ (st187_1 _ _ _ _ _ _ _ _ _ _ _ _ (1) _ (by omega) (by omega) fun pre hpre s0 hs0 => st221_0_1 _ _ _ _ _ _ _ _ _ _ _ nar_bb nar_bb nar_bb nar_bb hk0 hk1 hk2 hk3 pre (by omega) s0 hs0)
  · exact st113_0 _ _ 2 1 _ _ _ _ _ _ _ _ (st187_2 _ _ _ _ _ _ _ _ _ _ _ _ (1) _ (by omega) (by omega) fun pre hpre s0 hs0 => st221_0_1 _ _ _ _ _ _ _ _ _ _ _ nar_bb nar_bb nar_bb nar_bb hk0 hk1 hk2 hk3 pre (by omega) s0 hs0)
  · exact st113_1 _ _ 0 0 _ _ _ _ _ _ _ _ (st187_0 _ _ _ _ _ _ _ _ _ _ _ _ (sz (XT.ushr i0 3 &&& 3) + (0)) _ (by omega) (by omega) fun pre hpre s0 hs0 => st221_1_0 _ _ _ _ _ _ _ _ _ _ _ nar_bb nar_bb nar_bb nar_bb hk0 hk1 hk2 hk3 pre (by omega) s0 hs0)
  · exact st113_1 _ _ 1 0 _ _ _ _ _ _ _ _ (st187_1 _ _ _ _ _ _ _ _ _ _ _ _ (sz (XT.ushr i0 3 &&& 3) + (0)) _ (by omega) (by omega) fun pre hpre s0 hs0 => st221_1_0 _ _ _ _ _ _ _ _ _ _ _ nar_bb nar_bb nar_bb nar_bb hk0 hk1 hk2 hk3 pre (by omega) s0 hs0)
  · exact st113_1 _ _ 2 0 _ _ _ _ _ _ _ _ (st187_2 _ _ _ _ _ _ _ _ _ _ _ _ (sz (XT.ushr i0 3 &&& 3) + (0)) _ (by omega) (by omega) fun pre hpre s0 hs0 => st221_1_0 _ _ _ _ _ _ _ _ _ _ _ nar_bb nar_bb nar_bb nar_bb hk0 hk1 hk2 hk3 pre (by omega) s0 hs0)
  · exact st113_1 _ _ 0 1 _ _ _ _ _ _ _ _ (st187_0 _ _ _ _ _ _ _ _ _ _ _ _ (sz (XT.ushr i0 3 &&& 3) + (1)) _ (by omega) (by omega) fun pre hpre s0 hs0 => st221_1_1 _ _ _ _ _ _ _ _ _ _ _ nar_bb nar_bb nar_bb nar_bb hk0 hk1 hk2 hk3 pre (by omega) s0 hs0)
  · exact st113_1 _ _ 1 1 _ _ _ _ _ _ _ _ (st187_1 _ _ _ _ _ _ _ _ _ _ _ _ (sz (XT.ushr i0 3 &&& 3) + (1)) _ (by omega) (by omega) fun pre hpre s0 hs0 => st221_1_1 _ _ _ _ _ _ _ _ _ _ _ nar_bb nar_bb nar_bb nar_bb hk0 hk1 hk2 hk3 pre (by omega) s0 hs0)
  · exact st113_1 _ _ 2 1 _ _ _ _ _ _ _ _ (st187_2 _ _ _ _ _ _ _ _ _ _ _ _ (sz (XT.ushr i0 3 &&& 3) + (1)) _ (by omega) (by omega) fun pre hpre s0 hs0 => st221_1_1 _ _ _ _ _ _ _ _ _ _ _ nar_bb nar_bb nar_bb nar_bb hk0 hk1 hk2 hk3 pre (by omega) s0 hs0)
  · exact st113_2 _ _ 0 0 _ _ _ _ _ _ _ _ (st187_0 _ _ _ _ _ _ _ _ _ _ _ _ (sz (XT.ushr i0 3 &&& 3) + (sz (XT.ushr i0 5 &&& 3) + (0))) _ (by omega) (by omega) fun pre hpre s0 hs0 => st221_2_0 _ _ _ _ _ _ _ _ _ _ _ nar_bb nar_bb nar_bb nar_bb hk0 hk1 hk2 hk3 pre (by omega) s0 hs0)
  · exact st113_2 _ _ 1 0 _ _ _ _ _ _ _ _ (st187_1 _ _ _ _ _ _ _ _ _ _ _ _ (sz (XT.ushr i0 3 &&& 3) + (sz (XT.ushr i0 5 &&& 3) + (0))) _ (by omega) (by omega) fun pre hpre s0 hs0 => st221_2_0 _ _ _ _ _ _ _ _ _ _ _ nar_bb nar_bb nar_bb nar_bb hk0 hk1 hk2 hk3 pre (by omega) s0 hs0)
  · exact st113_2 _ _ 2 0 _ _ _ _ _ _ _ _ (st187_2 _ _ _ _ _ _ _ _ _ _ _ _ (sz (XT.ushr i0 3 &&& 3) + (sz (XT.ushr i0 5 &&& 3) + (0))) _ (by omega) (by omega) fun pre hpre s0 hs0 => st221_2_0 _ _ _ _ _ _ _ _ _ _ _ nar_bb nar_bb nar_bb nar_bb hk0 hk1 hk2 hk3 pre (by omega) s0 hs0)
  · exact st113_2 _ _ 0 1 _ _ _ _ _ _ _ _ (st187_0 _ _ _ _ _ _ _ _ _ _ _ _ (sz (XT.ushr i0 3 &&& 3) + (sz (XT.ushr i0 5 &&& 3) + (1))) _ (by omega) (by omega) fun pre hpre s0 hs0 => st221_2_1 _ _ _ _ _ _ _ _ _ _ _ nar_bb nar_bb nar_bb nar_bb hk0 hk1 hk2 hk3 pre (by omega) s0 hs0)
  · exact st113_2 _ _ 1 1 _ _ _ _ _ _ _ _ (st187_1 _ _ _ _ _ _ _ _ _ _ _ _ (sz (XT.ushr i0 3 &&& 3) + (sz (XT.ushr i0 5 &&& 3) + (1))) _ (by omega) (by omega) fun pre hpre s0 hs0 => st221_2_1 _ _ _ _ _ _ _ _ _ _ _ nar_bb nar_bb nar_bb nar_bb hk0 hk1 hk2 hk3 pre (by omega) s0 hs0)
  · exact st113_2 _ _ 2 1 _ _ _ _ _ _ _ _ (st187_2 _ _ _ _ _ _ _ _ _ _ _ _ (sz (XT.ushr i0 3 &&& 3) + (sz (XT.ushr i0 5 &&& 3) + (1))) _ (by omega) (by omega) fun pre hpre s0 hs0 => st221_2_1 _ _ _ _ _ _ _ _ _ _ _ nar_bb nar_bb nar_bb nar_bb hk0 hk1 hk2 hk3 pre (by omega) s0 hs0)
  · exact st113_3 _ _ 0 0 _ _ _ _ _ _ _ _ (st187_0 _ _ _ _ _ _ _ _ _ _ _ _ (sz (XT.ushr i0 3 &&& 3) + (sz (XT.ushr i0 5 &&& 3) + (sz (XT.ushr i0 7 &&& 3) + (0)))) _ (by omega) (by omega) fun pre hpre s0 hs0 => st221_3_0 _ _ _ _ _ _ _ _ _ _ _ nar_bb nar_bb nar_bb nar_bb hk0 hk1 hk2 hk3 pre (by omega) s0 hs0)
  · exact st113_3 _ _ 1 0 _ _ _ _ _ _ _ _ (st187_1 _ _ _ _ _ _ _ _ _ _ _ _ (sz (XT.ushr i0 3 &&& 3) + (sz (XT.ushr i0 5 &&& 3) + (sz (XT.ushr i0 7 &&& 3) + (0)))) _ (by omega) (by omega) fun pre hpre s0 hs0 => st221_3_0 _ _ _ _ _ _ _ _ _ _ _ nar_bb nar_bb nar_bb nar_bb hk0 hk1 hk2 hk3 pre (by omega) s0 hs0)
  · exact st113_3 _ _ 2 0 _ _ _ _ _ _ _ _ (st187_2 _ _ _ _ _ _ _ _ _ _ _ _ (sz (XT.ushr i0 3 &&& 3) + (sz (XT.ushr i0 5 &&& 3) + (sz (XT.ushr i0 7 &&& 3) + (0)))) _ (by omega) (by omega) fun pre hpre s0 hs0 => st221_3_0 _ _ _ _ _ _ _ _ _ _ _ nar_bb nar_bb nar_bb nar_bb hk0 hk1 hk2 hk3 pre (by omega) s0 hs0)
  · exact st113_3 _ _ 0 1 _ _ _ _ _ _ _ _ (st187_0 _ _ _ _ _ _ _ _ _ _ _ _ (sz (XT.ushr i0 3 &&& 3) + (sz (XT.ushr i0 5 &&& 3) + (sz (XT.ushr i0 7 &&& 3) + (1)))) _ (by omega) (by omega) fun pre hpre s0 hs0 => st221_3_1 _ _ _ _ _ _ _ _ _ _ _ nar_bb nar_bb nar_bb nar_bb hk0 hk1 hk2 hk3 pre (by omega) s0 hs0)
  · exact st113_3 _ _ 1 1 _ _ _ _ _ _ _ _ (st187_1 _ _ _ _ _ _ _ _ _ _ _ _ (sz (XT.ushr i0 3 &&& 3) + (sz (XT.ushr i0 5 &&& 3) + (sz (XT.ushr i0 7 &&& 3) + (1)))) _ (by omega) (by omega) fun pre hpre s0 hs0 => st221_3_1 _ _ _ _ _ _ _ _ _ _ _ nar_bb nar_bb nar_bb nar_bb hk0 hk1 hk2 hk3 pre (by omega) s0 hs0)
  · exact st113_3 _ _ 2 1 _ _ _ _ _ _ _ _ (st187_2 _ _ _ _ _ _ _ _ _ _ _ _ (sz (XT.ushr i0 3 &&& 3) + (sz (XT.ushr i0 5 &&& 3) + (sz (XT.ushr i0 7 &&& 3) + (1)))) _ (by omega) (by omega) fun pre hpre s0 hs0 => st221_3_1 _ _ _ _ _ _ _ _ _ _ _ nar_bb nar_bb nar_bb nar_bb hk0 hk1 hk2 hk3 pre (by omega) s0 hs0)
  · exact st113_4 _ _ 0 0 _ _ _ _ _ _ _ _ (st187_0 _ _ _ _ _ _ _ _ _ _ _ _ (sz (XT.ushr i0 3 &&& 3) + (sz (XT.ushr i0 5 &&& 3) + (sz (XT.ushr i0 7 &&& 3) + (sz (XT.ushr i0 9 &&& 3) + (0))))) _ (by omega) (by omega) fun pre hpre s0 hs0 => st221_4_0 _ _ _ _ _ _ _ _ _ _ _ nar_bb nar_bb nar_bb nar_bb hk0 hk1 hk2 hk3 pre (by omega) s0 hs0)
  · exact st113_4 _ _ 1 0 _ _ _ _ _ _ _ _ (st187_1 _ _ _ _ _ _ _ _ _ _ _ _ (sz (XT.ushr i0 3 &&& 3) + (sz (XT.ushr i0 5 &&& 3) + (sz (XT.ushr i0 7 &&& 3) + (sz (XT.ushr i0 9 &&& 3) + (0))))) _ (by omega) (by omega) fun pre hpre s0 hs0 => st221_4_0 _ _ _ _ _ _ _ _ _ _ _ nar_bb nar_bb nar_bb nar_bb hk0 hk1 hk2 hk3 pre (by omega) s0 hs0)
  · exact st113_4 _ _ 2 0 _ _ _ _ _ _ _ _ (st187_2 _ _ _ _ _ _ _ _ _ _ _ _ (sz (XT.ushr i0 3 &&& 3) + (sz (XT.ushr i0 5 &&& 3) + (sz (XT.ushr i0 7 &&& 3) + (sz (XT.ushr i0 9 &&& 3) + (0))))) _ (by omega) (by omega) fun pre hpre s0 hs0 => st221_4_0 _ _ _ _ _ _ _ _ _ _ _ nar_bb nar_bb nar_bb nar_bb hk0 hk1 hk2 hk3 pre (by omega) s0 hs0)
  · exact st113_4 _ _ 0 1 _ _ _ _ _ _ _ _ (st187_0 _ _ _ _ _ _ _ _ _ _ _ _ (sz (XT.ushr i0 3 &&& 3) + (sz (XT.ushr i0 5 &&& 3) + (sz (XT.ushr i0 7 &&& 3) + (sz (XT.ushr i0 9 &&& 3) + (1))))) _ (by omega) (by omega) fun pre hpre s0 hs0 => st221_4_1 _ _ _ _ _ _ _ _ _ _ _ nar_bb nar_bb nar_bb nar_bb hk0 hk1 hk2 hk3 pre (by omega) s0 hs0)
  · exact st113_4 _ _ 1 1 _ _ _ _ _ _ _ _ (st187_1 _ _ _ _ _ _ _ _ _ _ _ _ (sz (XT.ushr i0 3 &&& 3) + (sz (XT.ushr i0 5 &&& 3) + (sz (XT.ushr i0 7 &&& 3) + (sz (XT.ushr i0 9 &&& 3) + (1))))) _ (by omega) (by omega) fun pre hpre s0 hs0 => st221_4_1 _ _ _ _ _ _ _ _ _ _ _ nar_bb nar_bb nar_bb nar_bb hk0 hk1 hk2 hk3 pre (by omega) s0 hs0)
  · exact st113_4 _ _ 2 1 _ _ _ _ _ _ _ _ (st187_2 _ _ _ _ _ _ _ _ _ _ _ _ (sz (XT.ushr i0 3 &&& 3) + (sz (XT.ushr i0 5 &&& 3) + (sz (XT.ushr i0 7 &&& 3) + (sz (XT.ushr i0 9 &&& 3) + (1))))) _ (by omega) (by omega) fun pre hpre s0 hs0 => st221_4_1 _ _ _ _ _ _ _ _ _ _ _ nar_bb nar_bb nar_bb nar_bb hk0 hk1 hk2 hk3 pre (by omega) s0 hs0)
theorem comes_1 {Post : Tables → Env → Array Value → State → Outcome → State → Prop} (hpost : ∀ tb e args s v u, (limb_1_1.after args s (.returned v) u = true ∧ limb_1_2.after args s (.returned v) u = true ∧ True) → FrameEnd s (.returned v) u (Jvm.fieldLocs frame_1_writes args s ++ Jvm.arrayLocs frame_1_arrays args s ++ Jvm.staticLocs frame_1_statics s) 16 128 → Post tb e args s (.returned v) u) :
    ArmFor flags0 classFile x code maxLocals ret World_1 tables_1 room_1 Calls_1 rest_1 Pre_1 Post := by
  intro l hfl _ _ p e ha hc hk s m args below hf hA hF happ hP
  obtain ⟨hcalls, hrest, hpre⟩ := hP
  obtain ⟨-, -, -, hnamed, -, -, -, hat⟩ := (Spec.applies_iff hf).mp happ
  obtain ⟨hg, hn⟩ := and_e (Cond.before_iff.mp (show (Jvm.Cond.and given_1 narrow_1).before args s = true from hpre))
  obtain ⟨hcount, g0⟩ := and_e hg
  obtain ⟨q0, g1⟩ := and_e g0
  obtain ⟨w0, w1, rfl⟩ : ∃ w0 w1 : Value, args = #[w0, w1] := by
    have hs : args.size = 2 := by simpa [Cond.value, given_1] using hcount
    obtain ⟨L⟩ := args
    match L, hs with
    | [w0, w1], _ => exact ⟨w0, w1, rfl⟩
  have hw := fun d (hd : d ∈ tables_1) => atoms_spec (ws := Jvm.Cond.code x code maxLocals ret :: tables_1) hat d (List.mem_cons_of_mem _ hd)
  obtain ⟨i0, ei0⟩ := is_v q0
  obtain rfl : w0 = (.int i0) := Option.some.inj ei0
  obtain ⟨i1, ei1⟩ := isL_v g1
  obtain rfl : w1 = (.long i1) := Option.some.inj ei1
  obtain ⟨n, o, h1, h2, h3, v, L, rfl, ⟨N, H', -, hv⟩, hq⟩ := G.met (ws := tables_1) (y := x) (by first | decide +kernel | exact plainFor_of_name (by simp [x, plainName, overriddenIn])) (fun m => ef0 m i0 i1) (show G code x.cls x.name maxLocals ret room_1 tables_1 l s s.heap 16 128 _ 0 _ [] [] 0 0 from law l s s.heap i0 i1) _ s.heap hw ⟨rfl, fun i c hc => by cases hc⟩ p e ha hc hk s m _ below hf ((Spec.applies_iff_loose hf).mp happ).1 ⟨rfl, State.Warmed39.refl s, rfl⟩ trivial
  cases hv
  refine ⟨n, _, h1, h2, h3, hpost _ _ _ _ _ _ ⟨Cond.after_iff.mpr rfl, Cond.after_iff.mpr (eq_i res_at (Term.int_eval (1)) rfl), trivial⟩ ⟨hq.1, hq.2.1, hq.2.2.sift fun y hy => Or.inr (N y hy)⟩⟩
theorem main_1_1 : Claimed_1_1 := comes_1 fun _ _ _ _ _ _ h hF => ⟨h.1, hF⟩
theorem main_1_2 : Claimed_1_2 := comes_1 fun _ _ _ _ _ _ h hF => ⟨h.2.1, hF⟩
end Jvm.Pilot.@@N@@
namespace Jvm.Pilot.@@N@@
open Jvm Jvm.ClassFile Sem Op Lib Jvm.Free Jvm.Stand Jvm.Pilot.@@N@@.Jvm.D
/-! MADE BY PROGRAM (witnessworld.py) out of the Statement's table words and the real class files: 9 classes; the members and pool entries that the words name. The judged class is class 1, her method 1. -/
namespace start1
open Jvm.ClassFile
def u (s : String) : CpInfo := .utf8 (stringToUtf16 s)
/-- a pool by its gaps: so many unusable entries, then the entry; so many at the end -/
def gap : Nat → List CpInfo → List CpInfo
  | 0, r => r
  | n + 1, r => .unusable :: gap n r
def poolList (es : List (Nat × CpInfo)) (last : Nat) : List CpInfo := es.foldr (fun e r => gap e.1 (e.2 :: r)) (gap last [])
def pool (es : List (Nat × CpInfo)) (last : Nat) : Array CpInfo := ⟨poolList es last⟩
def fileOf (pool : Array CpInfo) (this : Nat) (attrs : Array Attribute := #[]) (ms : Array MethodInfo := #[]) (fl : Nat := 33) (sup : Nat := 0) (ifs : Array Nat := #[]) (fds : Array FieldInfo := #[]) : ClassFile where
  minorVersion := 0
  majorVersion := 65
  constantPool := pool
  accessFlags := fl
  thisClass := this
  superClass := sup
  interfaces := ifs
  fields := fds
  methods := ms
  attributes := attrs
def plain (name : String) (sup : Option ClassId) : Class where
  name := name
  kind := .ordinary
  loader := none
  accessFlags := 33
  super := sup
  interfaces := #[]
  cf := none
  fields := #[]
  methods := #[]
  instanceTypes := #[]
  staticTypes := #[]
  resolved := #[]
  callSites := []
  init := .initialized
  statics := none
  mirror := none

def pool0 : Array CpInfo := pool [(5, u "<init>"), (0, u "()V"), (1, .class_ 10), (1, u "java/lang/Object")] 113

def k0m0 : Method := { name := "<init>", desc := "()V", sig := { parameters := [], returnType := none }, accessFlags := 1, code := none }
/-- java/lang/Object -/
def k0 : Class := { plain "java/lang/Object" none with
  accessFlags := 33
  interfaces := #[]
  cf := some (fileOf pool0 8 #[] #[{ accessFlags := 1, nameIndex := 5, descriptorIndex := 6, attributes := #[] }] 33 0 #[] #[])
  fields := #[]
  methods := #[k0m0]
  instanceTypes := #[]
  staticTypes := #[]
  resolved := Array.replicate 124 none
  statics := none }

def pool1 : Array CpInfo := pool [(2, .class_ 4), (1, u "java/lang/Object"), (0, u "<init>"), (0, u "()V"), (0, .methodref 8 9), (0, .class_ 10), (0, .nameAndType 11 12), (0, u "com/example/rowkey/rowkey/EndedPartsEndOfPinLaw"), (0, u "size"), (0, u "(I)I"), (0, .methodref 8 14), (0, .nameAndType 15 16), (0, u "put"), (0, u "([BIIB)I"), (0, .methodref 18 19), (0, .class_ 20), (0, .nameAndType 21 22), (0, u "com/example/rowkey/rowkey/EndedParts"), (0, u "endOf"), (0, u "([BI)I"), (0, .methodref 8 24), (0, .nameAndType 25 26), (0, u "expected"), (0, u "([III)I"), (2, u "law"), (0, u "(IJ)Z")] 7

def k1m0 : Method := { name := "<init>", desc := "()V", sig := { parameters := [], returnType := none }, accessFlags := 2, code := none }
def k1c1 : Code := { maxStack := 5, maxLocals := 11, code := code, exceptionTable := #[], attributes := #[] }
def k1m1 : Method := { name := "law", desc := "(IJ)Z", sig := { parameters := [.int, .long], returnType := some .boolean }, accessFlags := 9, code := some k1c1 }
def k1c2 : Code := { maxStack := 1, maxLocals := 1, code := method_3_code, exceptionTable := #[], attributes := #[] }
def k1m2 : Method := { name := "size", desc := "(I)I", sig := { parameters := [.int], returnType := some .int }, accessFlags := 10, code := some k1c2 }
def k1c3 : Code := { maxStack := 4, maxLocals := 4, code := method_4_code, exceptionTable := #[], attributes := #[] }
def k1m3 : Method := { name := "put", desc := "([BIIB)I", sig := { parameters := [(.array .byte), .int, .int, .byte], returnType := some .int }, accessFlags := 10, code := some k1c3 }
def k1c4 : Code := { maxStack := 3, maxLocals := 4, code := method_5_code, exceptionTable := #[], attributes := #[] }
def k1m4 : Method := { name := "expected", desc := "([III)I", sig := { parameters := [(.array .int), .int, .int], returnType := some .int }, accessFlags := 10, code := some k1c4 }
/-- com/example/rowkey/rowkey/EndedPartsEndOfPinLaw -/
def k1 : Class := { plain "com/example/rowkey/rowkey/EndedPartsEndOfPinLaw" (some 0) with
  accessFlags := 49
  interfaces := #[]
  cf := some (fileOf pool1 8 #[] #[{ accessFlags := 2, nameIndex := 5, descriptorIndex := 6, attributes := #[] }, { accessFlags := 9, nameIndex := 29, descriptorIndex := 30, attributes := #[] }, { accessFlags := 10, nameIndex := 11, descriptorIndex := 12, attributes := #[] }, { accessFlags := 10, nameIndex := 15, descriptorIndex := 16, attributes := #[] }, { accessFlags := 10, nameIndex := 25, descriptorIndex := 26, attributes := #[] }] 49 2 #[] #[])
  fields := #[]
  methods := #[k1m0, k1m1, k1m2, k1m3, k1m4]
  instanceTypes := #[]
  staticTypes := #[]
  resolved := Array.replicate 38 none
  statics := none }

def pool2 : Array CpInfo := pool [(2, .class_ 4), (1, u "java/lang/Object"), (0, u "<init>"), (0, u "()V"), (0, .class_ 8), (0, u "com/example/rowkey/rowkey/EndedParts"), (12, u "ZERO"), (0, u "B"), (2, u "ESCAPED_ZERO"), (1, u "END"), (1, u "END_LENGTH"), (0, u "I"), (9, u "endOf"), (0, u "([BI)I")] 4

def k2m0 : Method := { name := "<init>", desc := "()V", sig := { parameters := [], returnType := none }, accessFlags := 2, code := none }
def k2c1 : Code := { maxStack := 3, maxLocals := 3, code := prog_19_method_4_code, exceptionTable := #[], attributes := #[] }
def k2m1 : Method := { name := "endOf", desc := "([BI)I", sig := { parameters := [(.array .byte), .int], returnType := some .int }, accessFlags := 8, code := some k2c1 }
/-- com/example/rowkey/rowkey/EndedParts -/
def k2 : Class := { plain "com/example/rowkey/rowkey/EndedParts" (some 0) with
  accessFlags := 32
  interfaces := #[]
  cf := some (fileOf pool2 7 #[] #[{ accessFlags := 2, nameIndex := 5, descriptorIndex := 6, attributes := #[] }, { accessFlags := 8, nameIndex := 40, descriptorIndex := 41, attributes := #[] }] 32 2 #[] #[{ accessFlags := 26, nameIndex := 21, descriptorIndex := 22, attributes := #[] }, { accessFlags := 26, nameIndex := 25, descriptorIndex := 22, attributes := #[] }, { accessFlags := 26, nameIndex := 27, descriptorIndex := 22, attributes := #[] }, { accessFlags := 24, nameIndex := 29, descriptorIndex := 30, attributes := #[] }])
  fields := #[{ name := "ZERO", type := .byte, accessFlags := 26, slot := 0, constantValue := 0 }, { name := "ESCAPED_ZERO", type := .byte, accessFlags := 26, slot := 1, constantValue := 0 }, { name := "END", type := .byte, accessFlags := 26, slot := 2, constantValue := 0 }, { name := "END_LENGTH", type := .int, accessFlags := 24, slot := 3, constantValue := 0 }]
  methods := #[k2m0, k2m1]
  instanceTypes := #[]
  staticTypes := #[.byte, .byte, .byte, .int]
  resolved := Array.replicate 46 none
  statics := none }

def pool3 : Array CpInfo := pool [(1, u "java/lang/Cloneable"), (0, .class_ 1), (0, u "java/lang/Object"), (0, .class_ 3)] 3

/-- java/lang/Cloneable -/
def k3 : Class := { plain "java/lang/Cloneable" (some 0) with
  accessFlags := 1537
  interfaces := #[]
  cf := some (fileOf pool3 2 #[] #[] 1537 4 #[] #[])
  fields := #[]
  methods := #[]
  instanceTypes := #[]
  staticTypes := #[]
  resolved := Array.replicate 8 none
  statics := none }

def pool4 : Array CpInfo := pool [(1, u "java/io/Serializable"), (0, .class_ 1), (0, u "java/lang/Object"), (0, .class_ 3)] 3

/-- java/io/Serializable -/
def k4 : Class := { plain "java/io/Serializable" (some 0) with
  accessFlags := 1537
  interfaces := #[]
  cf := some (fileOf pool4 2 #[] #[] 1537 4 #[] #[])
  fields := #[]
  methods := #[]
  instanceTypes := #[]
  staticTypes := #[]
  resolved := Array.replicate 8 none
  statics := none }

/-- the primitive byte -/
def k5 : Class := { plain "byte" none with kind := .primitive 'B', accessFlags := 0x411 }
/-- [B -/
def k6 : Class := { plain "[B" (some 0) with kind := .array 5 .byte, interfaces := #[3, 4], accessFlags := 1041 }

/-- the primitive int -/
def k7 : Class := { plain "int" none with kind := .primitive 'I', accessFlags := 0x411 }
/-- [I -/
def k8 : Class := { plain "[I" (some 0) with kind := .array 7 .int, interfaces := #[3, 4], accessFlags := 1041 }

def heap : Heap := #[]
def classes : Array Class := #[k0, k1, k2, k3, k4, k5, k6, k7, k8]
def interned : List (Array UInt16 × Addr) := []
def slotsUsed : Nat := 0
def theMethod : MethodId := ⟨1, 1⟩
def args0 : Array Value := #[.int 215, .long 15]
def aboutOver (below : List Frame) : State where
  vm := { classes := classes, interned := interned.toArray }
  heap := heap
  slotsUsed := slotsUsed
  threads := #[{ frames := .invoking theMethod args0 :: below }]
def below0 : List Frame := [.native { method := ⟨0, 0⟩, args := #[] }]
def about1 : State := aboutOver below0
def p0 : Program := .bare "" "" ""
def e0 : Env := launch0.env 0 0 0
theorem w_frames : about1.frames = Frame.invoking theMethod args0 :: below0 := rfl
set_option maxRecDepth 65536 in
theorem w_args : argsFit about1.vm theMethod args0 = true := by decide +kernel
set_option maxRecDepth 65536 in
theorem w_heap : heapFits about1 = true := by decide +kernel
set_option maxRecDepth 65536 in
theorem w_runnable : about1.curStatus? = some .runnable := by decide +kernel
set_option maxRecDepth 65536 in
theorem w_alone : about1.alone = true := by decide +kernel
set_option maxRecDepth 65536 in
theorem w_named : about1.methodNamed? x = some theMethod := by decide +kernel
set_option maxRecDepth 65536 in
theorem w_hears : about1.hears theMethod below0 = true := by decide +kernel
set_option maxRecDepth 65536 in
theorem w_ripe : about1.ripe theMethod args0 below0 = true := by decide +kernel
theorem w_running : about1.status = .running := rfl
set_option maxRecDepth 65536 in
theorem w_room : about1.hasRoom e0.platform room_1 = true :=
  launch0.hasRoom_least _ room_1 (by decide +kernel) (by decide +kernel) (by decide +kernel) (by decide +kernel) (by decide +kernel) (by decide +kernel)
theorem allAtoms_all (ts : List Jvm.Cond) (a : Array Jvm.Value) (st : Jvm.State) : (allAtoms ts).before a st = ts.all (fun c => c.before a st) := by
  induction ts with
  | nil => rfl
  | cons c t ih =>
    show (Jvm.Cond.and c (allAtoms t)).before a st = _
    rw [Jvm.Cond.before_and, ih, List.all_cons]
def words1 : List Jvm.Cond := Jvm.Cond.code x code maxLocals ret :: tables_1
/-- a 'code' word, met by the world's own term for the bytes: nothing is compared byte by byte -/
theorem code_word {y : MethodName} {bytes : ByteArray} {mx : Nat} {rt : Option FieldType} {a : Array Value} {s : State} {m : MethodId} {meth : Method} {c : Code} (h1 : s.methodNamed? y = some m) (h2 : s.vm.method? m = some meth) (h3 : meth.code = some c) (h4 : c.code = bytes)
    (h5 : (c.maxLocals == mx && c.exceptionTable.isEmpty && decide (c.maxStack ≤ mostOperands) && decide (meth.sig.returnType = rt) && !meth.locks && decide (parseMethodDescriptor y.desc = some meth.sig)) = true) : (Jvm.Cond.code y bytes mx rt).before a s = true := by
  simp only [Bool.and_eq_true, beq_iff_eq, Bool.not_eq_true', decide_eq_true_eq] at h5
  obtain ⟨⟨⟨⟨⟨g1, g2⟩, g3⟩, g4⟩, g5⟩, g6⟩ := h5
  simp [Cond.before, Cond.holds, Cond.value, h1, h2, h3, h4, g1, g2, g3, g4, g5, g6]
def isCode : Jvm.Cond → Bool
  | .code _ _ _ _ => true
  | _ => false
theorem all_split {L : List Jvm.Cond} {P : Jvm.Cond → Bool} (h1 : L.all (fun c => isCode c || P c) = true) (h2 : ∀ c ∈ L.filter isCode, P c = true) : L.all P = true := by
  refine List.all_eq_true.mpr fun c hc => ?_
  have h := List.all_eq_true.mp h1 c hc
  rcases Bool.eq_false_or_eq_true (isCode c) with hi | hi
  · exact h2 c (List.mem_filter.mpr ⟨hc, hi⟩)
  · simpa [hi] using h
set_option maxRecDepth 65536 in
theorem w_c0 : (Jvm.Cond.code x code maxLocals ret).before args0 about1 = true := code_word (m := ⟨1, 1⟩) (meth := k1m1) (c := k1c1) (by decide +kernel) rfl rfl rfl (by decide +kernel)
set_option maxRecDepth 65536 in
theorem w_c1 : (Jvm.Cond.code ({ cls := "com/example/rowkey/rowkey/EndedParts", name := "endOf", desc := "([BI)I" } : Jvm.MethodName) prog_19_method_4_code (3 : Nat) (Option.some Jvm.ClassFile.FieldType.int)).before args0 about1 = true := code_word (m := ⟨2, 1⟩) (meth := k2m1) (c := k2c1) (by decide +kernel) rfl rfl rfl (by decide +kernel)
set_option maxRecDepth 65536 in
theorem w_c2 : (Jvm.Cond.code ({ cls := "com/example/rowkey/rowkey/EndedPartsEndOfPinLaw", name := "expected", desc := "([III)I" } : Jvm.MethodName) method_5_code (4 : Nat) (Option.some Jvm.ClassFile.FieldType.int)).before args0 about1 = true := code_word (m := ⟨1, 4⟩) (meth := k1m4) (c := k1c4) (by decide +kernel) rfl rfl rfl (by decide +kernel)
set_option maxRecDepth 65536 in
theorem w_c3 : (Jvm.Cond.code ({ cls := "com/example/rowkey/rowkey/EndedPartsEndOfPinLaw", name := "size", desc := "(I)I" } : Jvm.MethodName) method_3_code (1 : Nat) (Option.some Jvm.ClassFile.FieldType.int)).before args0 about1 = true := code_word (m := ⟨1, 2⟩) (meth := k1m2) (c := k1c2) (by decide +kernel) rfl rfl rfl (by decide +kernel)
set_option maxRecDepth 65536 in
theorem w_c4 : (Jvm.Cond.code ({ cls := "com/example/rowkey/rowkey/EndedPartsEndOfPinLaw", name := "put", desc := "([BIIB)I" } : Jvm.MethodName) method_4_code (4 : Nat) (Option.some Jvm.ClassFile.FieldType.int)).before args0 about1 = true := code_word (m := ⟨1, 3⟩) (meth := k1m3) (c := k1c3) (by decide +kernel) rfl rfl rfl (by decide +kernel)
def codes1 : List Jvm.Cond := [Jvm.Cond.code x code maxLocals ret, Jvm.Cond.code ({ cls := "com/example/rowkey/rowkey/EndedParts", name := "endOf", desc := "([BI)I" } : Jvm.MethodName) prog_19_method_4_code (3 : Nat) (Option.some Jvm.ClassFile.FieldType.int), Jvm.Cond.code ({ cls := "com/example/rowkey/rowkey/EndedPartsEndOfPinLaw", name := "expected", desc := "([III)I" } : Jvm.MethodName) method_5_code (4 : Nat) (Option.some Jvm.ClassFile.FieldType.int), Jvm.Cond.code ({ cls := "com/example/rowkey/rowkey/EndedPartsEndOfPinLaw", name := "size", desc := "(I)I" } : Jvm.MethodName) method_3_code (1 : Nat) (Option.some Jvm.ClassFile.FieldType.int), Jvm.Cond.code ({ cls := "com/example/rowkey/rowkey/EndedPartsEndOfPinLaw", name := "put", desc := "([BIIB)I" } : Jvm.MethodName) method_4_code (4 : Nat) (Option.some Jvm.ClassFile.FieldType.int)]
set_option maxRecDepth 65536 in
theorem codes_eq : words1.filter isCode = codes1 := rfl
theorem w_codes : ∀ c ∈ words1.filter isCode, c.before args0 about1 = true := by
  rw [codes_eq]
  intro c hc
  simp only [codes1, List.mem_cons, List.not_mem_nil, or_false] at hc
  rcases hc with rfl | rfl | rfl | rfl | rfl
  · exact w_c0
  · exact w_c1
  · exact w_c2
  · exact w_c3
  · exact w_c4
set_option maxRecDepth 65536 in
theorem w_t1 : words1.all (fun c => isCode c || c.before args0 about1) = true := by decide +kernel
theorem w_tables : (allAtoms (Jvm.Cond.code x code maxLocals ret :: tables_1)).before args0 about1 = true := by
  rw [allAtoms_all]
  show words1.all (fun c => c.before args0 about1) = true
  refine all_split ?_ w_codes
  rw [w_t1]
set_option maxRecDepth 65536 in
theorem w_case : (Jvm.Cond.and given_1 narrow_1).before args0 about1 = true := by decide +kernel
theorem w_applies : (headSpec (Jvm.Cond.code x code maxLocals ret :: tables_1) room_1).applies x e0.platform about1 = true :=
  (Spec.applies_iff w_frames).mpr ⟨w_running, w_runnable, w_alone, w_named, w_hears, w_ripe, w_room, w_tables⟩
theorem atStart : AtStart classFile x code maxLocals ret World_1 tables_1 room_1 Calls_1 rest_1 Pre_1 launch0 p0 e0 about1 theMethod args0 below0 :=
  ⟨lists_1, trivial, launch0.admits_env _ _ _, launch0.least_env, fairChoices_fair.cas, fairChoices_fair.clock, w_frames, w_args, w_heap, w_applies, trivial, trivial, w_case⟩
end start1
theorem witness_1 : WitnessClaimed_1 := ⟨start1.p0, start1.e0, start1.about1, start1.theMethod, start1.args0, start1.below0, start1.atStart⟩
end Jvm.Pilot.@@N@@
