import JvmDerived
import JvmDerived.Pilot.@@N@@Statement
import JvmDerived.Pilot.@@N@@Code
set_option linter.unusedVariables false
set_option linter.unusedSimpArgs false
namespace Jvm.WK
open Sem ClassFile Op Lib Jvm.Stand Jvm.Free Jvm.LawKit Jvm.RoadKit
/-! ## 1. the context of one law's run, and what is known of its heap -/
/-- program, launch, environment, start, the law's arguments, the frames below, the law's own method, its String constants, no constant may be interned, room, the law's local variables -/
abbrev Cx := Program × Launch × Env × State × Array Value × List Frame × MethodId × List (String × Nat) × Bool × Room × Nat × List (String × Nat)
def kp (κ : Cx) : Program := κ.1
def kl (κ : Cx) : Launch := κ.2.1
def ke (κ : Cx) : Env := κ.2.2.1
def kZ (κ : Cx) : State := κ.2.2.2.1
def ka (κ : Cx) : Array Value := κ.2.2.2.2.1
def kb (κ : Cx) : List Frame := κ.2.2.2.2.2.1
def km (κ : Cx) : MethodId := κ.2.2.2.2.2.2.1
def kE (κ : Cx) : List (String × Nat) := κ.2.2.2.2.2.2.2.1
def kS (κ : Cx) : Bool := κ.2.2.2.2.2.2.2.2.1
def kR (κ : Cx) : Room := κ.2.2.2.2.2.2.2.2.2.1
def kx (κ : Cx) : Nat := κ.2.2.2.2.2.2.2.2.2.2.1
/-- the constants that are paid for at the start -/
def kP (κ : Cx) : List (String × Nat) := κ.2.2.2.2.2.2.2.2.2.2.2
def resd (vm : Vm) (p : String × Nat) : Bool := match vm.findClass p.1 with
  | none => false
  | some c => match vm.classes[c]? with
    | none => false
    | some k => match k.resolved[p.2]? with
      | some (some (.string _)) => true
      | _ => false
def pend (κ : Cx) (vm : Vm) : Nat := (kP κ).countP fun p => !resd vm p
def Used (κ : Cx) (T : State) (k n : Nat) : Prop := ∃ k0 n0, (kZ κ).sameButNew (T.setVm (kZ κ).vm) [] k0 n0 ∧ k0 + 2 * pend κ T.vm ≤ k ∧ n0 + 100 * pend κ T.vm ≤ n
/-- a word of the tables -/
def Wd (κ : Cx) (d : Jvm.Cond) : Prop := d.before (ka κ) (kZ κ) = true
/-- the method called y has these bytes -/
def Meth (κ : Cx) (y : MethodName) (bytes : ByteArray) (mx : Nat) (rt : Option FieldType) : Prop := plainFor y = true ∧ Wd κ (.code y bytes mx rt)
def mid (κ : Cx) (y : MethodName) : MethodId := ((kZ κ).methodNamed? y).getD ⟨0, 0⟩
def fr (κ : Cx) (y : MethodName) (pc : Nat) (L : List Slot) (S : List Value) : Frame := .java (mkF (mid κ y) pc L.toArray S)
def cats (S : List Value) : Nat := (S.map fun v => v.category).sum
def wt (F : List Frame) : Nat := stackWeight F
/-- a frame that waits for a callee's answer -/
def Waits (κ : Cx) (f : Frame) : Prop := ∃ (y : MethodName) (bytes : ByteArray) (rt : Option FieldType) (pc : Nat) (L : List Slot) (S : List Value) (i : Instr) (len : Nat), f = fr κ y pc L S ∧ Meth κ y bytes L.length rt ∧ decode bytes pc = .ok (i, len)
/-- room for so many frames more and so many words, over the frames F (which lie above the law's invoker's) -/
def Rm (κ : Cx) (F : List Frame) (d w : Nat) : Prop := F.length + d ≤ (kR κ).frames + 1 ∧ wt F + w ≤ (kR κ).locals + (kx κ + 11)
def Under (κ : Cx) (F : List Frame) : Prop := ∀ f ∈ F, Waits κ f
/-- address; may be written; an object (its class; its fields: declarer, name, descriptor, value) or an array (its components) -/
abbrev Chunk := Addr × Bool × (String × List (String × String × String × Value) ⊕ FieldType × List Value)
def fslot (κ : Cx) (f : String × String × String × Value) : Nat := RoadKit.slotOf (kZ κ) f.1 f.2.1 f.2.2.1
def Holds (κ : Cx) (h : Heap) : Chunk → Prop
  | (a, _, .inl (C, fs)) => Exa (kZ κ) h a C ∧ (∀ f ∈ fs, Fld (kZ κ) h a f.1 f.2.1 f.2.2.1 f.2.2.2) ∧ (fs.map (fslot κ)).Nodup
  | (a, mu, .inr (ty, vs)) => ∃ c : Cell, Arr (kZ κ) h a c ty ∧ c.slots.toList = vs ∧ (∀ C, ty = .object C → Ovr (kZ κ) c.cls C) ∧ (mu = true → ty = .byte → Exa (kZ κ) h a "[B")
def key (x : Chunk) : Addr × Bool := (x.1, x.2.1)
def Apart (x y : Addr × Bool) : Prop := (x.2 = true ∨ y.2 = true) → x.1 ≠ y.1
def Hp (κ : Cx) (vm : Vm) (h : Heap) (l : List Chunk) : Prop :=
  (∀ x ∈ l, Holds κ h x) ∧ (l.map key).Pairwise Apart ∧ (∀ x ∈ l, x.2.1 = true → (kZ κ).heap.size ≤ x.1 ∧ Safe (kZ κ) (kE κ) vm h x.1)
/-- what is the same all along -/
def Ok (κ : Cx) : Prop :=
  (kl κ).admits (ke κ) ∧ FairCas (ke κ).choices ∧ FairClock (ke κ).choices ∧ (kp κ).tables.exec = Jvm.exec ∧ (kZ κ).frames = .invoking (km κ) (ka κ) :: kb κ ∧ (kZ κ).hasRoom (ke κ).platform (kR κ) = true ∧
    (kZ κ).hears (km κ) (kb κ) = true ∧ (kZ κ).status = .running ∧ (kZ κ).curStatus? = some .runnable ∧ (kZ κ).alone = true ∧ EW (kZ κ) (ka κ) (kE κ) ∧ ∃ (x : MethodName) (bytes : ByteArray), Meth κ x bytes (kx κ) (some .boolean) ∧ mid κ x = km κ
def Good (κ : Cx) (T : State) (y : MethodName) (pc : Nat) (L : List Slot) (S : List Value) (F : List Frame) (l : List Chunk) (k n : Nat) : Prop :=
  T.frames = fr κ y pc L S :: (F ++ kb κ) ∧ Used κ T k n ∧ (kZ κ).Since T.vm T.heap.size ∧ (kS κ = true → (kZ κ).WarmedH T.vm) ∧ CHv (kZ κ) (kE κ) T.vm T.heap ∧ Hp κ T.vm T.heap l ∧
    k ≤ (kR κ).cells ∧ n ≤ (kR κ).slots ∧ Under κ F ∧ Rm κ F 1 (L.length + 11) ∧ ∃ bytes rt, Meth κ y bytes L.length rt
/-- the end that the law owes -/
def Ends (κ : Cx) (t : State) : Prop :=
  t.status = .running ∧ Ended t (kb κ) (.returned (some (.int 1))) ∧ (kZ κ).Since t.vm t.heap.size ∧ (kS κ = true → (kZ κ).WarmedH t.vm) ∧ (kZ κ).sameButNew { t with vm := (kZ κ).vm } [] (kR κ).cells (kR κ).slots
def Done (κ : Cx) (T : State) : Prop := ∃ t, Steps (kp κ).tables (ke κ) (kb κ) T t ∧ Ends κ t
/-- **from every state that looks like this the law comes to its end** -/
def WP (κ : Cx) (y : MethodName) (pc : Nat) (L : List Slot) (S : List Value) (F : List Frame) (l : List Chunk) (k n : Nat) : Prop := ∀ T, Good κ T y pc L S F l k n → Done κ T
/-! ## 2. small facts -/
theorem steps_weaken {tb : Tables} {e : Env} {mid below : List Frame} {a b : State} (h : Steps tb e (mid ++ below) a b) : Steps tb e below a b := by
  obtain ⟨n, hn, hw⟩ := h
  refine ⟨n, hn, fun k hk => ?_⟩
  obtain ⟨above, h1, h2, h3⟩ := hw k hk
  refine ⟨above ++ mid, by rw [h1, List.append_assoc], by simp [h2], fun x hx => ?_⟩
  cases above with
  | nil => exact h2 rfl
  | cons y r =>
    cases r with
    | nil => cases mid with
      | nil => exact h3 x (by simpa using hx)
      | cons _ _ => simp at hx
    | cons _ _ => simp at hx
theorem wt_nil : wt [] = 0 := rfl
theorem wt_cons (f : Frame) (F : List Frame) : wt (f :: F) = f.weight + wt F := by simp [wt, stackWeight]
theorem wt_append (F G : List Frame) : wt (F ++ G) = wt F + wt G := by simp [wt, stackWeight]
theorem fr_weight (κ : Cx) (y : MethodName) (pc : Nat) (L : List Slot) (S : List Value) : (fr κ y pc L S).weight = 11 + L.length + cats S := by simp [fr, Frame.weight, cats]
theorem Rm.mono {κ : Cx} {F : List Frame} {d w d' w' : Nat} (h : Rm κ F d w) (h1 : d' ≤ d) (h2 : w' ≤ w) : Rm κ F d' w' := ⟨by have := h.1; omega, by have := h.2; omega⟩
theorem Rm.push {κ : Cx} {F : List Frame} {d w d' w' : Nat} {y : MethodName} {pc : Nat} {L : List Slot} {S : List Value} (h : Rm κ F d w) (h1 : d' + 1 ≤ d) (h2 : w' + (11 + L.length + cats S) ≤ w) : Rm κ (fr κ y pc L S :: F) d' w' :=
  ⟨by have := h.1; simp only [List.length_cons]; omega, by have := h.2; rw [wt_cons, fr_weight]; omega⟩
theorem Meth.get {κ : Cx} {y : MethodName} {bytes : ByteArray} {mx : Nat} {rt : Option FieldType} (M : Meth κ y bytes mx rt) :
    ∃ (meth : Method) (c : Code), (kZ κ).methodNamed? y = some (mid κ y) ∧ (kZ κ).vm.method? (mid κ y) = some meth ∧ meth.code = some c ∧ c.code = bytes ∧ c.maxLocals = mx ∧ meth.sig.returnType = rt ∧ meth.locks = false ∧ c.exceptionTable.isEmpty = true ∧ parseMethodDescriptor y.desc = some meth.sig := by
  obtain ⟨m, hn⟩ := Cond.code_named M.2
  obtain ⟨meth, c, h1, h2, h3, h4, h5, h6, h7, h8⟩ := Cond.code_spec hn M.2
  have e : mid κ y = m := by simp [mid, hn]
  rw [e]
  exact ⟨meth, c, hn, h1, h2, h3, h4, h5, h6, h7, h8⟩
theorem Meth.cls {κ : Cx} {y : MethodName} {bytes : ByteArray} {mx : Nat} {rt : Option FieldType} (M : Meth κ y bytes mx rt) : (kZ κ).vm.findClass y.cls = some (mid κ y).cls := by
  obtain ⟨_, _, h, _⟩ := M.get
  exact findClass_of_methodNamed h
section G
variable {κ : Cx} {T : State} {y : MethodName} {pc : Nat} {L : List Slot} {S : List Value} {F : List Frame} {l : List Chunk} {k n : Nat} {bytes : ByteArray} {mx : Nat} {rt : Option FieldType}
theorem Good.alike (G : Good κ T y pc L S F l k n) : (kZ κ).vm.Alike T.vm := G.2.2.1.1.alike
theorem Good.warm (G : Good κ T y pc L S F l k n) : (kZ κ).Warmed39 T.vm := G.2.2.1.1
theorem Good.sb (G : Good κ T y pc L S F l k n) : (kZ κ).sameButNew (T.setVm (kZ κ).vm) [] k n := by
  obtain ⟨k0, n0, h, h1, h2⟩ := G.2.1
  exact h.mono (by omega) (by omega)
theorem Good.eqT (G : Good κ T y pc L S F l k n) : T.setVm (kZ κ).vm = { (kZ κ).setFrames T.frames with heap := T.heap, slotsUsed := T.slotsUsed } := G.sb.1
theorem Good.status (G : Good κ T y pc L S F l k n) : T.status = (kZ κ).status := by
  have q := congrArg State.status G.eqT
  exact q
theorem Good.threads (G : Good κ T y pc L S F l k n) : T.threads = ((kZ κ).setFrames T.frames).threads := by
  have q := congrArg State.threads G.eqT
  exact q
theorem Good.curEq (G : Good κ T y pc L S F l k n) : T.cur = (kZ κ).cur := by
  have q := congrArg State.cur G.eqT
  exact q
theorem Good.curStatus (G : Good κ T y pc L S F l k n) : T.curStatus? = (kZ κ).curStatus? := by
  rw [← State.curStatus?_setFrames (kZ κ) T.frames]
  show (T.threads[T.cur]?).map _ = (((kZ κ).setFrames T.frames).threads[(kZ κ).cur]?).map _
  rw [G.threads, G.curEq]
theorem Good.alone (G : Good κ T y pc L S F l k n) : T.alone = (kZ κ).alone := by
  rw [← State.alone_setFrames (kZ κ) T.frames]
  show State.alone T = State.alone ((kZ κ).setFrames T.frames)
  unfold State.alone
  rw [G.threads, G.curEq]
  rfl
theorem Good.me (G : Good κ T y pc L S F l k n) : T.me = ((kZ κ).setFrames T.frames).me := by
  unfold State.me
  rw [G.threads, G.curEq]
  rfl
theorem Good.limits (G : Good κ T y pc L S F l k n) (pl : Platform) : pl.stackLimits T.me = pl.stackLimits (kZ κ).me := by rw [G.me, State.stackLimits_setFrames]
theorem Good.sbytes (G : Good κ T y pc L S F l k n) : T.me.stackBytes = (kZ κ).me.stackBytes := by rw [G.me, State.stackBytes_setFrames]
theorem Good.len (G : Good κ T y pc L S F l k n) (M : Meth κ y bytes mx rt) : L.length = mx := by
  obtain ⟨b', rt', M'⟩ := G.2.2.2.2.2.2.2.2.2.2
  obtain ⟨m1, c1, -, h1, h2, -, h3, -⟩ := M.get
  obtain ⟨m2, c2, -, g1, g2, -, g3, -⟩ := M'.get
  cases h1.symm.trans g1
  cases h2.symm.trans g2
  exact g3.symm.trans h3
theorem Good.hears (C : Ok κ) (G : Good κ T y pc L S F l k n) (m : MethodId) : T.hears m (F ++ kb κ) = true := by
  obtain ⟨-, -, -, -, -, -, hh, -, -, -, -, x, bx, Mx, hmx⟩ := C
  obtain ⟨m0, c0, -, q1, -, -, -, q5, -⟩ := Mx.get
  rw [hmx] at q1
  cases F with
  | cons f F' =>
    obtain ⟨yc, bc, rc, pcc, Lc, Sc, i, len, rfl, Mc, hd⟩ := G.2.2.2.2.2.2.2.2.1 f (by simp)
    obtain ⟨mc, cc, -, n2, n3, n4, -⟩ := Mc.get
    have hm : T.vm.method? (mid κ yc) = some mc := by rw [G.alike.method?]; exact n2
    show ((T.code? (mid κ yc)).bind fun c => (decode c.code pcc).toOption).isSome = true
    rw [State.code?_eq, hm]
    simp [n3, n4, hd, Except.toOption]
  | nil =>
    show T.hears m (kb κ) = true
    cases hb : kb κ with
    | nil => rw [hb] at hh; simp [State.hears, q1, q5] at hh
    | cons f r =>
      rw [hb] at hh
      cases f
      case java g =>
        have e : T.code? g.method = (kZ κ).code? g.method := by rw [State.code?_eq, State.code?_eq, G.alike.method?]
        show ((T.code? g.method).bind fun c => (decode c.code g.pc).toOption).isSome = true
        rw [e]; exact hh
      case native g => rfl
      case proc g => rfl
      all_goals (simp [State.hears, q1, q5] at hh)
abbrev base (κ : Cx) (T : State) (y : MethodName) (F : List Frame) : State := T.setFrames (.invoking (mid κ y) (ka κ) :: (F ++ kb κ))
theorem Good.stand (C : Ok κ) (G : Good κ T y pc L S F l k n) (M : Meth κ y bytes mx rt) {d w : Nat} (hR : Rm κ F (d + 1) (L.length + 11 + w)) :
    ∃ meth c, Stand (kp κ) (kl κ) (ke κ) ⟨d, (kR κ).cells - k, (kR κ).slots - n, w⟩ (base κ T y F) (mid κ y) (ka κ) (F ++ kb κ) meth c T [] 0 0 ∧ c.code = bytes ∧ c.maxLocals = L.length ∧ meth.sig.returnType = rt ∧ meth.locks = false ∧ parseMethodDescriptor y.desc = some meth.sig := by
  have eL := G.len M
  obtain ⟨meth, c, h1, h2, h3, h4, h5, h6, h7, -, h8⟩ := M.get
  have hf := G.1
  have hcur := State.cur_lt_of_frames hf
  have hal := G.alike
  have hm : T.vm.method? (mid κ y) = some meth := by rw [hal.method?]; exact h2
  have hH := G.hears C (mid κ y)
  obtain ⟨c1, c2, c3, c4, c5, c6, c7, c8, c9, c10, c11, x, bx, Mx, hmx⟩ := C
  obtain ⟨m0, c0, -, q1, q2, -, q4, q5, -⟩ := Mx.get
  rw [hmx] at q1
  have hname : T.methodNamed? y = some (mid κ y) := by
    have q : ((kZ κ).setVm T.vm).methodNamed? y = some (mid κ y) := by rw [State.methodNamed?_setVm hal]; exact h1
    exact q
  have hfs : (base κ T y F).frames = .invoking (mid κ y) (ka κ) :: (F ++ kb κ) := State.frames_setFrames _ hcur
  obtain ⟨t, ht, -⟩ := State.frames_cons hfs
  refine ⟨meth, c, ⟨c1, c2, c3, hfs, ?_, ?_, hm, h3, ⟨?_, ⟨[], by rw [hf]; rfl⟩, G.status.trans c8, G.curStatus.trans c9, G.alone.trans c10, ?_, ?_⟩, by rw [hf]; rfl, State.WarmedH.refl (base κ T y F), ?_, ?_, ?_⟩, h4, by rw [h5, eL], h6, h7, h8⟩
  · have r := c6
    have e1 := State.localsInUse_invoking c5 q1 q2
    have e2 := State.localsInUse_invoking (s := base κ T y F) hfs hm h3
    have e3 : stackWeight (F ++ kb κ) = wt F + stackWeight (kb κ) := wt_append F (kb κ)
    have b1 : (ke κ).platform.stackLimits (base κ T y F).me = (ke κ).platform.stackLimits (kZ κ).me := by rw [State.stackLimits_setFrames]; exact G.limits _
    have b2 : (base κ T y F).me.stackBytes = (kZ κ).me.stackBytes := by rw [State.stackBytes_setFrames]; exact G.sbytes
    have b3 : (base κ T y F).slotsTrue = true := by
      simp only [State.hasRoom, Bool.and_eq_true] at r
      have q := State.slotsTrue_of_sameButNew r.2 G.sb
      exact q
    have b4 : (base κ T y F).heap.size ≤ (kZ κ).heap.size + k := G.sb.2.2.1
    have b5 : (base κ T y F).slotsUsed ≤ (kZ κ).slotsUsed + n := by
      have u1 : T.slotsUsed = (kZ κ).slotsUsed + _ := G.sb.2.2.2.1
      have u2 := G.sb.2.2.2.2.1
      show T.slotsUsed ≤ _
      rw [u1]; exact Nat.add_le_add_left u2 _
    have b6 := G.2.2.2.2.2.2.1
    have b7 := G.2.2.2.2.2.2.2.1
    have b8 : (base κ T y F).frames.length = F.length + (kb κ).length + 1 := by rw [hfs]; simp
    have b9 : (kZ κ).frames.length = (kb κ).length + 1 := by rw [c5]; simp
    have r1 := hR.1
    have r2 := hR.2
    simp only [State.hasRoom, Bool.and_eq_true, decide_eq_true_eq] at r ⊢
    rw [e1, b9] at r
    rw [e2, e3, b8, b1, b2]
    rw [h5, ← eL]
    rw [q4] at r
    refine ⟨⟨⟨⟨?_, ⟨?_, ?_, ?_, ?_, r.1.1.1.2.2.2.2.2⟩⟩, ?_⟩, ?_⟩, b3⟩
    · have := r.1.1.1.1; omega
    · have := r.1.1.1.2.1; omega
    · have := r.1.1.1.2.2.1; omega
    · have := r.1.1.1.2.2.2.1; omega
    · have := r.1.1.1.2.2.2.2.1; omega
    · have := r.1.1.2; omega
    · have := r.1.2; omega
  · have e : (base κ T y F).hears (mid κ y) (F ++ kb κ) = T.hears (mid κ y) (F ++ kb κ) := by
      cases F ++ kb κ with
      | nil => rfl
      | cons f r => cases f <;> rfl
    rw [e]; exact hH
  · rw [State.topJava?_of_frames hf]; rfl
  · rw [State.code?_eq, hm]; simp [h3]
  · exact State.plainMethod.of_named M.1 hname hm
  · rw [State.stackLimits_setFrames]
  · rw [State.stackBytes_setFrames]
  · have q := (State.sameButNew.refl (base κ T y F) ht).setFrames T.frames (State.cur_lt_of_frames hfs)
    have e : (base κ T y F).setFrames T.frames = T := by
      show (T.setFrames _).setFrames T.frames = T
      rw [State.setFrames_setFrames, hf]
      have e2 := State.setTop_of_frames (mkF (mid κ y) pc L.toArray S) hf
      rw [State.setTop_self (State.topJava?_of_frames hf)] at e2
      exact e2.symm
    rw [e] at q
    exact q
end G
end Jvm.WK
namespace Jvm.WK
open Sem ClassFile Op Lib Jvm.Stand Jvm.Free Jvm.LawKit Jvm.RoadKit
/-! ## 3. the instructions that touch the frame alone, by evaluation -/
abbrev Pr := Option (Nat × List Slot × List Value)
def pK (len w pc : Nat) (L : List Slot) (S : List Value) (v : Value) : Pr := if len = w then some (pc + w, L, v :: S) else none
def kindOf : Value → Nat
  | .int _ => 0
  | .long _ => 1
  | .null => 2
  | .ref _ => 2
  | _ => 9
def pLd (len w pc : Nat) (L : List Slot) (S : List Value) (k kd : Nat) : Pr := match L[k]? with
  | some (.val v) => if len = w ∧ kindOf v = kd then some (pc + w, L, v :: S) else none
  | _ => none
def pSt (len w pc : Nat) (L : List Slot) (S : List Value) (k kd : Nat) : Pr := match S with
  | v :: r => if len = w ∧ kindOf v = kd then (match storeLocals L.toArray k v with
    | some l' => if l'.size = L.length then some (pc + w, l'.toList, r) else none
    | none => none) else none
  | [] => none
def pInc (len pc : Nat) (L : List Slot) (S : List Value) (k : Nat) (cst : Int) : Pr := match L[k]? with
  | some (.val (.int x)) => if len = 3 then (match storeLocals L.toArray k (.int (x + Int32.ofInt cst)) with
    | some l' => if l'.size = L.length then some (pc + 3, l'.toList, S) else none
    | none => none) else none
  | _ => none
def pI2 (len pc : Nat) (L : List Slot) (S : List Value) (f : Int32 → Int32 → Int32) : Pr := match S with
  | .int y :: .int x :: r => if len = 1 then some (pc + 1, L, .int (f x y) :: r) else none
  | _ => none
def pL2 (len pc : Nat) (L : List Slot) (S : List Value) (f : Int64 → Int64 → Value) : Pr := match S with
  | .long y :: .long x :: r => if len = 1 then some (pc + 1, L, f x y :: r) else none
  | _ => none
def pLI (len pc : Nat) (L : List Slot) (S : List Value) (f : Int64 → Int32 → Int64) : Pr := match S with
  | .int y :: .long x :: r => if len = 1 then some (pc + 1, L, .long (f x y) :: r) else none
  | _ => none
def pI1 (len pc : Nat) (L : List Slot) (S : List Value) (f : Int32 → Value) : Pr := match S with
  | .int x :: r => if len = 1 then some (pc + 1, L, f x :: r) else none
  | _ => none
def pL1 (len pc : Nat) (L : List Slot) (S : List Value) (f : Int64 → Value) : Pr := match S with
  | .long x :: r => if len = 1 then some (pc + 1, L, f x :: r) else none
  | _ => none
def pPop (len pc : Nat) (L : List Slot) (S : List Value) : Pr := match S with
  | x :: r => if len = 1 ∧ x.category = 1 then some (pc + 1, L, r) else none
  | _ => none
def pDup (len pc : Nat) (L : List Slot) (S : List Value) : Pr := match S with
  | x :: r => if len = 1 ∧ x.category = 1 then some (pc + 1, L, x :: x :: r) else none
  | _ => none
def pDupX1 (len pc : Nat) (L : List Slot) (S : List Value) : Pr := match S with
  | x :: y :: r => if len = 1 ∧ x.category = 1 ∧ y.category = 1 then some (pc + 1, L, x :: y :: x :: r) else none
  | _ => none
def pDup2 (len pc : Nat) (L : List Slot) (S : List Value) : Pr := match S with
  | .long x :: r => if len = 1 then some (pc + 1, L, .long x :: .long x :: r) else none
  | x :: y :: r => if len = 1 ∧ x.category = 1 ∧ y.category = 1 then some (pc + 1, L, x :: y :: x :: y :: r) else none
  | _ => none
def pGo (len pc : Nat) (L : List Slot) (S : List Value) (o : Int) : Pr := if len = 3 ∧ 0 ≤ (pc : Int) + o then some (((pc : Int) + o).toNat, L, S) else none
/-- one instruction of the frame's own -/
def ps (i : Instr) (len pc : Nat) (L : List Slot) (S : List Value) : Pr := match i with
  | .iconst v => pK len 1 pc L S (.int (Int32.ofInt v))
  | .bipush v => pK len 2 pc L S (.int (Int8.ofInt v).toInt32)
  | .sipush v => pK len 3 pc L S (.int (Int16.ofInt v).toInt32)
  | .lconst k => pK len 1 pc L S (.long (Int64.ofNat k))
  | .aconst_null => pK len 1 pc L S .null
  | .iload_n k => pLd len 1 pc L S k.val 0
  | .iload k => pLd len 2 pc L S k 0
  | .lload_n k => pLd len 1 pc L S k.val 1
  | .lload k => pLd len 2 pc L S k 1
  | .aload_n k => pLd len 1 pc L S k.val 2
  | .aload k => pLd len 2 pc L S k 2
  | .istore_n k => pSt len 1 pc L S k.val 0
  | .istore k => pSt len 2 pc L S k 0
  | .lstore_n k => pSt len 1 pc L S k.val 1
  | .lstore k => pSt len 2 pc L S k 1
  | .astore_n k => pSt len 1 pc L S k.val 2
  | .astore k => pSt len 2 pc L S k 2
  | .iinc k cst => pInc len pc L S k cst
  | .iadd => pI2 len pc L S (fun x y => x + y)
  | .isub => pI2 len pc L S (fun x y => x - y)
  | .imul => pI2 len pc L S (fun x y => x * y)
  | .iand => pI2 len pc L S (fun x y => x &&& y)
  | .ior => pI2 len pc L S (fun x y => x ||| y)
  | .ixor => pI2 len pc L S (fun x y => x ^^^ y)
  | .ishl => pI2 len pc L S (fun x y => x <<< (y &&& 31))
  | .ishr => pI2 len pc L S (fun x y => x >>> (y &&& 31))
  | .iushr => pI2 len pc L S (fun x y => XT.ushr x y)
  | .ladd => pL2 len pc L S (fun x y => .long (x + y))
  | .lsub => pL2 len pc L S (fun x y => .long (x - y))
  | .lmul => pL2 len pc L S (fun x y => .long (x * y))
  | .land => pL2 len pc L S (fun x y => .long (x &&& y))
  | .lor => pL2 len pc L S (fun x y => .long (x ||| y))
  | .lxor => pL2 len pc L S (fun x y => .long (x ^^^ y))
  | .lcmp => pL2 len pc L S (fun x y => .int (XT.cmpL x y))
  | .lshl => pLI len pc L S (fun x y => x <<< (y.toInt64 &&& 63))
  | .lshr => pLI len pc L S (fun x y => x >>> (y.toInt64 &&& 63))
  | .lushr => pLI len pc L S (fun x y => XT.ushrL x y)
  | .i2l => pI1 len pc L S (fun x => .long x.toInt64)
  | .i2b => pI1 len pc L S (fun x => .int x.toInt8.toInt32)
  | .i2c => pI1 len pc L S (fun x => .int x.toUInt32.toUInt16.toUInt32.toInt32)
  | .i2s => pI1 len pc L S (fun x => .int x.toInt16.toInt32)
  | .ineg => pI1 len pc L S (fun x => .int (-x))
  | .l2i => pL1 len pc L S (fun x => .int x.toInt32)
  | .lneg => pL1 len pc L S (fun x => .long (-x))
  | .pop => pPop len pc L S
  | .dup => pDup len pc L S
  | .dup_x1 => pDupX1 len pc L S
  | .dup2 => pDup2 len pc L S
  | .goto o => pGo len pc L S o
  | _ => none
/-- a stretch of them -/
def runs : List (Instr × Nat) → Nat → List Slot → List Value → Pr
  | [], pc, L, S => some (pc, L, S)
  | (i, len) :: r, pc, L, S => match ps i len pc L S with
    | some (pc', L', S') => runs r pc' L' S'
    | none => none
/-- where it goes on -/
def npc (i : Instr) (len pc : Nat) : Nat := match i with
  | .goto o => ((pc : Int) + o).toNat
  | _ => pc + len
/-- the bytes hold that stretch from pc on -/
def seg (bytes : ByteArray) : List (Instr × Nat) → Nat → Bool
  | [], _ => true
  | (i, len) :: r, pc => (match decode bytes pc with
    | .ok (j, n) => decide (j = i ∧ n = len)
    | _ => false) && seg bytes r (npc i len pc)
section P
variable {tb : Tables} [Ours tb] {e : Env} {below : List Frame} {T : State} {m : MethodId} {c : Code} {pc len : Nat} {L L' : List Slot} {S S' : List Value} {pc' : Nat}
theorem kind0 {v : Value} (h : kindOf v = 0) : ∃ x, v = .int x := by cases v <;> simp [kindOf] at h ⊢
theorem kind1 {v : Value} (h : kindOf v = 1) : ∃ x, v = .long x := by cases v <;> simp [kindOf] at h ⊢
theorem kind2 {v : Value} (h : kindOf v = 2) : v.isRef = true := by cases v <;> simp [kindOf, Value.isRef] at h ⊢
theorem toA {k : Nat} {o : Option Slot} (h : L[k]? = o) : L.toArray[k]? = o := by simpa using h
theorem s_nop1 (h : At T m c below) (hx : tb.exec = Jvm.exec) {v : Int} (hd : decode c.code pc = .ok (.iconst v, len)) (hp : ps (.iconst v) len pc L S = some (pc', L', S')) : Steps tb e below (T.setTop (mkF m pc L.toArray S)) (T.setTop (mkF m pc' L'.toArray S')) ∧ L'.length = L.length ∧ npc (.iconst v) len pc = pc' := by
  simp only [ps, pK] at hp
  split at hp
  · rename_i hc
    subst hc
    cases hp
    exact ⟨XS.iconst h hx rfl hd (Steps.refl _), rfl, rfl⟩
  · cases hp
theorem s_bipush (h : At T m c below) (hx : tb.exec = Jvm.exec) {v : Int} (hd : decode c.code pc = .ok (.bipush v, len)) (hp : ps (.bipush v) len pc L S = some (pc', L', S')) : Steps tb e below (T.setTop (mkF m pc L.toArray S)) (T.setTop (mkF m pc' L'.toArray S')) ∧ L'.length = L.length ∧ npc (.bipush v) len pc = pc' := by
  simp only [ps, pK] at hp
  split at hp
  · rename_i hc
    subst hc
    cases hp
    exact ⟨XS.bipush h hx rfl hd (Steps.refl _), rfl, rfl⟩
  · cases hp
theorem s_sipush (h : At T m c below) (hx : tb.exec = Jvm.exec) {v : Int} (hd : decode c.code pc = .ok (.sipush v, len)) (hp : ps (.sipush v) len pc L S = some (pc', L', S')) : Steps tb e below (T.setTop (mkF m pc L.toArray S)) (T.setTop (mkF m pc' L'.toArray S')) ∧ L'.length = L.length ∧ npc (.sipush v) len pc = pc' := by
  simp only [ps, pK] at hp
  split at hp
  · rename_i hc
    subst hc
    cases hp
    exact ⟨XS.sipush h hx rfl hd (Steps.refl _), rfl, rfl⟩
  · cases hp
theorem s_lconst (h : At T m c below) (hx : tb.exec = Jvm.exec) {k : Fin 2} (hd : decode c.code pc = .ok (.lconst k, len)) (hp : ps (.lconst k) len pc L S = some (pc', L', S')) : Steps tb e below (T.setTop (mkF m pc L.toArray S)) (T.setTop (mkF m pc' L'.toArray S')) ∧ L'.length = L.length ∧ npc (.lconst k) len pc = pc' := by
  simp only [ps, pK] at hp
  split at hp
  · rename_i hc
    subst hc
    cases hp
    exact ⟨XT.lconst h hx rfl hd (Steps.refl _), rfl, rfl⟩
  · cases hp
theorem s_anull (h : At T m c below) (hx : tb.exec = Jvm.exec) (hd : decode c.code pc = .ok (.aconst_null, len)) (hp : ps (.aconst_null) len pc L S = some (pc', L', S')) : Steps tb e below (T.setTop (mkF m pc L.toArray S)) (T.setTop (mkF m pc' L'.toArray S')) ∧ L'.length = L.length ∧ npc (.aconst_null) len pc = pc' := by
  simp only [ps, pK] at hp
  split at hp
  · rename_i hc
    subst hc
    cases hp
    exact ⟨XS.aconstNull h hx rfl hd (Steps.refl _), rfl, rfl⟩
  · cases hp
theorem s_iloadN (h : At T m c below) (hx : tb.exec = Jvm.exec) {k : Fin 4} (hd : decode c.code pc = .ok (.iload_n k, len)) (hp : ps (.iload_n k) len pc L S = some (pc', L', S')) : Steps tb e below (T.setTop (mkF m pc L.toArray S)) (T.setTop (mkF m pc' L'.toArray S')) ∧ L'.length = L.length ∧ npc (.iload_n k) len pc = pc' := by
  simp only [ps, pLd] at hp
  split at hp
  · rename_i v hv
    split at hp
    · rename_i hc
      obtain ⟨rfl, hk⟩ := hc
      cases hp
      obtain ⟨x, rfl⟩ := kind0 hk
      exact ⟨XS.iloadN h hx rfl hd (toA hv) (Steps.refl _), rfl, rfl⟩
    · cases hp
  · cases hp
theorem s_iload (h : At T m c below) (hx : tb.exec = Jvm.exec) {k : Nat} (hd : decode c.code pc = .ok (.iload k, len)) (hp : ps (.iload k) len pc L S = some (pc', L', S')) : Steps tb e below (T.setTop (mkF m pc L.toArray S)) (T.setTop (mkF m pc' L'.toArray S')) ∧ L'.length = L.length ∧ npc (.iload k) len pc = pc' := by
  simp only [ps, pLd] at hp
  split at hp
  · rename_i v hv
    split at hp
    · rename_i hc
      obtain ⟨rfl, hk⟩ := hc
      cases hp
      obtain ⟨x, rfl⟩ := kind0 hk
      exact ⟨XS.iload h hx rfl hd (toA hv) (Steps.refl _), rfl, rfl⟩
    · cases hp
  · cases hp
theorem s_lloadN (h : At T m c below) (hx : tb.exec = Jvm.exec) {k : Fin 4} (hd : decode c.code pc = .ok (.lload_n k, len)) (hp : ps (.lload_n k) len pc L S = some (pc', L', S')) : Steps tb e below (T.setTop (mkF m pc L.toArray S)) (T.setTop (mkF m pc' L'.toArray S')) ∧ L'.length = L.length ∧ npc (.lload_n k) len pc = pc' := by
  simp only [ps, pLd] at hp
  split at hp
  · rename_i v hv
    split at hp
    · rename_i hc
      obtain ⟨rfl, hk⟩ := hc
      cases hp
      obtain ⟨x, rfl⟩ := kind1 hk
      exact ⟨XT.lloadN h hx rfl hd (toA hv) (Steps.refl _), rfl, rfl⟩
    · cases hp
  · cases hp
theorem s_lload (h : At T m c below) (hx : tb.exec = Jvm.exec) {k : Nat} (hd : decode c.code pc = .ok (.lload k, len)) (hp : ps (.lload k) len pc L S = some (pc', L', S')) : Steps tb e below (T.setTop (mkF m pc L.toArray S)) (T.setTop (mkF m pc' L'.toArray S')) ∧ L'.length = L.length ∧ npc (.lload k) len pc = pc' := by
  simp only [ps, pLd] at hp
  split at hp
  · rename_i v hv
    split at hp
    · rename_i hc
      obtain ⟨rfl, hk⟩ := hc
      cases hp
      obtain ⟨x, rfl⟩ := kind1 hk
      exact ⟨XT.lload h hx rfl hd (toA hv) (Steps.refl _), rfl, rfl⟩
    · cases hp
  · cases hp
theorem s_aloadN (h : At T m c below) (hx : tb.exec = Jvm.exec) {k : Fin 4} (hd : decode c.code pc = .ok (.aload_n k, len)) (hp : ps (.aload_n k) len pc L S = some (pc', L', S')) : Steps tb e below (T.setTop (mkF m pc L.toArray S)) (T.setTop (mkF m pc' L'.toArray S')) ∧ L'.length = L.length ∧ npc (.aload_n k) len pc = pc' := by
  simp only [ps, pLd] at hp
  split at hp
  · rename_i v hv
    split at hp
    · rename_i hc
      obtain ⟨rfl, hk⟩ := hc
      cases hp
      exact ⟨XS.aloadN h hx rfl hd (toA hv) (kind2 hk) (Steps.refl _), rfl, rfl⟩
    · cases hp
  · cases hp
theorem s_aload (h : At T m c below) (hx : tb.exec = Jvm.exec) {k : Nat} (hd : decode c.code pc = .ok (.aload k, len)) (hp : ps (.aload k) len pc L S = some (pc', L', S')) : Steps tb e below (T.setTop (mkF m pc L.toArray S)) (T.setTop (mkF m pc' L'.toArray S')) ∧ L'.length = L.length ∧ npc (.aload k) len pc = pc' := by
  simp only [ps, pLd] at hp
  split at hp
  · rename_i v hv
    split at hp
    · rename_i hc
      obtain ⟨rfl, hk⟩ := hc
      cases hp
      exact ⟨XS.aload h hx rfl hd (toA hv) (kind2 hk) (Steps.refl _), rfl, rfl⟩
    · cases hp
  · cases hp
theorem s_istoreN (h : At T m c below) (hx : tb.exec = Jvm.exec) {k : Fin 4} (hd : decode c.code pc = .ok (.istore_n k, len)) (hp : ps (.istore_n k) len pc L S = some (pc', L', S')) : Steps tb e below (T.setTop (mkF m pc L.toArray S)) (T.setTop (mkF m pc' L'.toArray S')) ∧ L'.length = L.length ∧ npc (.istore_n k) len pc = pc' := by
  simp only [ps, pSt] at hp
  split at hp
  · split at hp
    · rename_i hc
      obtain ⟨rfl, hk⟩ := hc
      split at hp
      · rename_i l' hl
        split at hp
        · rename_i hs
          cases hp
          obtain ⟨x, rfl⟩ := kind0 hk
          exact ⟨XS.istoreN h hx rfl hd rfl hl (Steps.refl _), by simpa using hs, rfl⟩
        · cases hp
      · cases hp
    · cases hp
  · cases hp
theorem s_istore (h : At T m c below) (hx : tb.exec = Jvm.exec) {k : Nat} (hd : decode c.code pc = .ok (.istore k, len)) (hp : ps (.istore k) len pc L S = some (pc', L', S')) : Steps tb e below (T.setTop (mkF m pc L.toArray S)) (T.setTop (mkF m pc' L'.toArray S')) ∧ L'.length = L.length ∧ npc (.istore k) len pc = pc' := by
  simp only [ps, pSt] at hp
  split at hp
  · split at hp
    · rename_i hc
      obtain ⟨rfl, hk⟩ := hc
      split at hp
      · rename_i l' hl
        split at hp
        · rename_i hs
          cases hp
          obtain ⟨x, rfl⟩ := kind0 hk
          exact ⟨XS.istore h hx rfl hd rfl hl (Steps.refl _), by simpa using hs, rfl⟩
        · cases hp
      · cases hp
    · cases hp
  · cases hp
theorem s_lstoreN (h : At T m c below) (hx : tb.exec = Jvm.exec) {k : Fin 4} (hd : decode c.code pc = .ok (.lstore_n k, len)) (hp : ps (.lstore_n k) len pc L S = some (pc', L', S')) : Steps tb e below (T.setTop (mkF m pc L.toArray S)) (T.setTop (mkF m pc' L'.toArray S')) ∧ L'.length = L.length ∧ npc (.lstore_n k) len pc = pc' := by
  simp only [ps, pSt] at hp
  split at hp
  · split at hp
    · rename_i hc
      obtain ⟨rfl, hk⟩ := hc
      split at hp
      · rename_i l' hl
        split at hp
        · rename_i hs
          cases hp
          obtain ⟨x, rfl⟩ := kind1 hk
          exact ⟨XT.lstoreN h hx rfl hd rfl hl (Steps.refl _), by simpa using hs, rfl⟩
        · cases hp
      · cases hp
    · cases hp
  · cases hp
theorem s_lstore (h : At T m c below) (hx : tb.exec = Jvm.exec) {k : Nat} (hd : decode c.code pc = .ok (.lstore k, len)) (hp : ps (.lstore k) len pc L S = some (pc', L', S')) : Steps tb e below (T.setTop (mkF m pc L.toArray S)) (T.setTop (mkF m pc' L'.toArray S')) ∧ L'.length = L.length ∧ npc (.lstore k) len pc = pc' := by
  simp only [ps, pSt] at hp
  split at hp
  · split at hp
    · rename_i hc
      obtain ⟨rfl, hk⟩ := hc
      split at hp
      · rename_i l' hl
        split at hp
        · rename_i hs
          cases hp
          obtain ⟨x, rfl⟩ := kind1 hk
          exact ⟨XT.lstore h hx rfl hd rfl hl (Steps.refl _), by simpa using hs, rfl⟩
        · cases hp
      · cases hp
    · cases hp
  · cases hp
theorem s_astoreN (h : At T m c below) (hx : tb.exec = Jvm.exec) {k : Fin 4} (hd : decode c.code pc = .ok (.astore_n k, len)) (hp : ps (.astore_n k) len pc L S = some (pc', L', S')) : Steps tb e below (T.setTop (mkF m pc L.toArray S)) (T.setTop (mkF m pc' L'.toArray S')) ∧ L'.length = L.length ∧ npc (.astore_n k) len pc = pc' := by
  simp only [ps, pSt] at hp
  split at hp
  · split at hp
    · rename_i hc
      obtain ⟨rfl, hk⟩ := hc
      split at hp
      · rename_i l' hl
        split at hp
        · rename_i hs
          cases hp
          exact ⟨XS.astoreN h hx rfl hd rfl (kind2 hk) hl (Steps.refl _), by simpa using hs, rfl⟩
        · cases hp
      · cases hp
    · cases hp
  · cases hp
theorem s_astore (h : At T m c below) (hx : tb.exec = Jvm.exec) {k : Nat} (hd : decode c.code pc = .ok (.astore k, len)) (hp : ps (.astore k) len pc L S = some (pc', L', S')) : Steps tb e below (T.setTop (mkF m pc L.toArray S)) (T.setTop (mkF m pc' L'.toArray S')) ∧ L'.length = L.length ∧ npc (.astore k) len pc = pc' := by
  simp only [ps, pSt] at hp
  split at hp
  · split at hp
    · rename_i hc
      obtain ⟨rfl, hk⟩ := hc
      split at hp
      · rename_i l' hl
        split at hp
        · rename_i hs
          cases hp
          exact ⟨XS.astore h hx rfl hd rfl (kind2 hk) hl (Steps.refl _), by simpa using hs, rfl⟩
        · cases hp
      · cases hp
    · cases hp
  · cases hp
theorem s_iinc (h : At T m c below) (hx : tb.exec = Jvm.exec) {k : Nat} {cst : Int} (hd : decode c.code pc = .ok (.iinc k cst, len)) (hp : ps (.iinc k cst) len pc L S = some (pc', L', S')) : Steps tb e below (T.setTop (mkF m pc L.toArray S)) (T.setTop (mkF m pc' L'.toArray S')) ∧ L'.length = L.length ∧ npc (.iinc k cst) len pc = pc' := by
  simp only [ps, pInc] at hp
  split at hp
  · rename_i x hv
    split at hp
    · rename_i hc
      subst hc
      split at hp
      · rename_i l' hl
        split at hp
        · rename_i hs
          cases hp
          exact ⟨XS.iinc h hx rfl hd (toA hv) hl (Steps.refl _), by simpa using hs, rfl⟩
        · cases hp
      · cases hp
    · cases hp
  · cases hp
theorem s_iadd (h : At T m c below) (hx : tb.exec = Jvm.exec) (hd : decode c.code pc = .ok (.iadd, len)) (hp : ps (.iadd) len pc L S = some (pc', L', S')) : Steps tb e below (T.setTop (mkF m pc L.toArray S)) (T.setTop (mkF m pc' L'.toArray S')) ∧ L'.length = L.length ∧ npc (.iadd) len pc = pc' := by
  simp only [ps, pI2] at hp
  split at hp
  · split at hp
    · rename_i hc
      subst hc
      cases hp
      exact ⟨XS.iadd h hx rfl hd rfl (Steps.refl _), rfl, rfl⟩
    · cases hp
  · cases hp
theorem s_isub (h : At T m c below) (hx : tb.exec = Jvm.exec) (hd : decode c.code pc = .ok (.isub, len)) (hp : ps (.isub) len pc L S = some (pc', L', S')) : Steps tb e below (T.setTop (mkF m pc L.toArray S)) (T.setTop (mkF m pc' L'.toArray S')) ∧ L'.length = L.length ∧ npc (.isub) len pc = pc' := by
  simp only [ps, pI2] at hp
  split at hp
  · split at hp
    · rename_i hc
      subst hc
      cases hp
      exact ⟨XS.isub h hx rfl hd rfl (Steps.refl _), rfl, rfl⟩
    · cases hp
  · cases hp
theorem s_imul (h : At T m c below) (hx : tb.exec = Jvm.exec) (hd : decode c.code pc = .ok (.imul, len)) (hp : ps (.imul) len pc L S = some (pc', L', S')) : Steps tb e below (T.setTop (mkF m pc L.toArray S)) (T.setTop (mkF m pc' L'.toArray S')) ∧ L'.length = L.length ∧ npc (.imul) len pc = pc' := by
  simp only [ps, pI2] at hp
  split at hp
  · split at hp
    · rename_i hc
      subst hc
      cases hp
      exact ⟨XS.imul h hx rfl hd rfl (Steps.refl _), rfl, rfl⟩
    · cases hp
  · cases hp
theorem s_iand (h : At T m c below) (hx : tb.exec = Jvm.exec) (hd : decode c.code pc = .ok (.iand, len)) (hp : ps (.iand) len pc L S = some (pc', L', S')) : Steps tb e below (T.setTop (mkF m pc L.toArray S)) (T.setTop (mkF m pc' L'.toArray S')) ∧ L'.length = L.length ∧ npc (.iand) len pc = pc' := by
  simp only [ps, pI2] at hp
  split at hp
  · split at hp
    · rename_i hc
      subst hc
      cases hp
      exact ⟨XS.iand h hx rfl hd rfl (Steps.refl _), rfl, rfl⟩
    · cases hp
  · cases hp
theorem s_ior (h : At T m c below) (hx : tb.exec = Jvm.exec) (hd : decode c.code pc = .ok (.ior, len)) (hp : ps (.ior) len pc L S = some (pc', L', S')) : Steps tb e below (T.setTop (mkF m pc L.toArray S)) (T.setTop (mkF m pc' L'.toArray S')) ∧ L'.length = L.length ∧ npc (.ior) len pc = pc' := by
  simp only [ps, pI2] at hp
  split at hp
  · split at hp
    · rename_i hc
      subst hc
      cases hp
      exact ⟨XT.ior h hx rfl hd rfl (Steps.refl _), rfl, rfl⟩
    · cases hp
  · cases hp
theorem s_ixor (h : At T m c below) (hx : tb.exec = Jvm.exec) (hd : decode c.code pc = .ok (.ixor, len)) (hp : ps (.ixor) len pc L S = some (pc', L', S')) : Steps tb e below (T.setTop (mkF m pc L.toArray S)) (T.setTop (mkF m pc' L'.toArray S')) ∧ L'.length = L.length ∧ npc (.ixor) len pc = pc' := by
  simp only [ps, pI2] at hp
  split at hp
  · split at hp
    · rename_i hc
      subst hc
      cases hp
      exact ⟨XT.ixor h hx rfl hd rfl (Steps.refl _), rfl, rfl⟩
    · cases hp
  · cases hp
theorem s_ishl (h : At T m c below) (hx : tb.exec = Jvm.exec) (hd : decode c.code pc = .ok (.ishl, len)) (hp : ps (.ishl) len pc L S = some (pc', L', S')) : Steps tb e below (T.setTop (mkF m pc L.toArray S)) (T.setTop (mkF m pc' L'.toArray S')) ∧ L'.length = L.length ∧ npc (.ishl) len pc = pc' := by
  simp only [ps, pI2] at hp
  split at hp
  · split at hp
    · rename_i hc
      subst hc
      cases hp
      exact ⟨XT.ishl h hx rfl hd rfl (Steps.refl _), rfl, rfl⟩
    · cases hp
  · cases hp
theorem s_ishr (h : At T m c below) (hx : tb.exec = Jvm.exec) (hd : decode c.code pc = .ok (.ishr, len)) (hp : ps (.ishr) len pc L S = some (pc', L', S')) : Steps tb e below (T.setTop (mkF m pc L.toArray S)) (T.setTop (mkF m pc' L'.toArray S')) ∧ L'.length = L.length ∧ npc (.ishr) len pc = pc' := by
  simp only [ps, pI2] at hp
  split at hp
  · split at hp
    · rename_i hc
      subst hc
      cases hp
      exact ⟨XT.ishr h hx rfl hd rfl (Steps.refl _), rfl, rfl⟩
    · cases hp
  · cases hp
theorem s_iushr (h : At T m c below) (hx : tb.exec = Jvm.exec) (hd : decode c.code pc = .ok (.iushr, len)) (hp : ps (.iushr) len pc L S = some (pc', L', S')) : Steps tb e below (T.setTop (mkF m pc L.toArray S)) (T.setTop (mkF m pc' L'.toArray S')) ∧ L'.length = L.length ∧ npc (.iushr) len pc = pc' := by
  simp only [ps, pI2] at hp
  split at hp
  · split at hp
    · rename_i hc
      subst hc
      cases hp
      exact ⟨XT.iushr h hx rfl hd rfl (Steps.refl _), rfl, rfl⟩
    · cases hp
  · cases hp
theorem s_ladd (h : At T m c below) (hx : tb.exec = Jvm.exec) (hd : decode c.code pc = .ok (.ladd, len)) (hp : ps (.ladd) len pc L S = some (pc', L', S')) : Steps tb e below (T.setTop (mkF m pc L.toArray S)) (T.setTop (mkF m pc' L'.toArray S')) ∧ L'.length = L.length ∧ npc (.ladd) len pc = pc' := by
  simp only [ps, pL2] at hp
  split at hp
  · split at hp
    · rename_i hc
      subst hc
      cases hp
      exact ⟨XT.ladd h hx rfl hd rfl (Steps.refl _), rfl, rfl⟩
    · cases hp
  · cases hp
theorem s_lsub (h : At T m c below) (hx : tb.exec = Jvm.exec) (hd : decode c.code pc = .ok (.lsub, len)) (hp : ps (.lsub) len pc L S = some (pc', L', S')) : Steps tb e below (T.setTop (mkF m pc L.toArray S)) (T.setTop (mkF m pc' L'.toArray S')) ∧ L'.length = L.length ∧ npc (.lsub) len pc = pc' := by
  simp only [ps, pL2] at hp
  split at hp
  · split at hp
    · rename_i hc
      subst hc
      cases hp
      exact ⟨XT.lsub h hx rfl hd rfl (Steps.refl _), rfl, rfl⟩
    · cases hp
  · cases hp
theorem s_lmul (h : At T m c below) (hx : tb.exec = Jvm.exec) (hd : decode c.code pc = .ok (.lmul, len)) (hp : ps (.lmul) len pc L S = some (pc', L', S')) : Steps tb e below (T.setTop (mkF m pc L.toArray S)) (T.setTop (mkF m pc' L'.toArray S')) ∧ L'.length = L.length ∧ npc (.lmul) len pc = pc' := by
  simp only [ps, pL2] at hp
  split at hp
  · split at hp
    · rename_i hc
      subst hc
      cases hp
      exact ⟨XT.lmul h hx rfl hd rfl (Steps.refl _), rfl, rfl⟩
    · cases hp
  · cases hp
theorem s_land (h : At T m c below) (hx : tb.exec = Jvm.exec) (hd : decode c.code pc = .ok (.land, len)) (hp : ps (.land) len pc L S = some (pc', L', S')) : Steps tb e below (T.setTop (mkF m pc L.toArray S)) (T.setTop (mkF m pc' L'.toArray S')) ∧ L'.length = L.length ∧ npc (.land) len pc = pc' := by
  simp only [ps, pL2] at hp
  split at hp
  · split at hp
    · rename_i hc
      subst hc
      cases hp
      exact ⟨XT.land h hx rfl hd rfl (Steps.refl _), rfl, rfl⟩
    · cases hp
  · cases hp
theorem s_lor (h : At T m c below) (hx : tb.exec = Jvm.exec) (hd : decode c.code pc = .ok (.lor, len)) (hp : ps (.lor) len pc L S = some (pc', L', S')) : Steps tb e below (T.setTop (mkF m pc L.toArray S)) (T.setTop (mkF m pc' L'.toArray S')) ∧ L'.length = L.length ∧ npc (.lor) len pc = pc' := by
  simp only [ps, pL2] at hp
  split at hp
  · split at hp
    · rename_i hc
      subst hc
      cases hp
      exact ⟨XT.lor h hx rfl hd rfl (Steps.refl _), rfl, rfl⟩
    · cases hp
  · cases hp
theorem s_lxor (h : At T m c below) (hx : tb.exec = Jvm.exec) (hd : decode c.code pc = .ok (.lxor, len)) (hp : ps (.lxor) len pc L S = some (pc', L', S')) : Steps tb e below (T.setTop (mkF m pc L.toArray S)) (T.setTop (mkF m pc' L'.toArray S')) ∧ L'.length = L.length ∧ npc (.lxor) len pc = pc' := by
  simp only [ps, pL2] at hp
  split at hp
  · split at hp
    · rename_i hc
      subst hc
      cases hp
      exact ⟨XT.lxor h hx rfl hd rfl (Steps.refl _), rfl, rfl⟩
    · cases hp
  · cases hp
theorem s_lcmp (h : At T m c below) (hx : tb.exec = Jvm.exec) (hd : decode c.code pc = .ok (.lcmp, len)) (hp : ps (.lcmp) len pc L S = some (pc', L', S')) : Steps tb e below (T.setTop (mkF m pc L.toArray S)) (T.setTop (mkF m pc' L'.toArray S')) ∧ L'.length = L.length ∧ npc (.lcmp) len pc = pc' := by
  simp only [ps, pL2] at hp
  split at hp
  · split at hp
    · rename_i hc
      subst hc
      cases hp
      exact ⟨XT.lcmp h hx rfl hd rfl (Steps.refl _), rfl, rfl⟩
    · cases hp
  · cases hp
theorem s_lshl (h : At T m c below) (hx : tb.exec = Jvm.exec) (hd : decode c.code pc = .ok (.lshl, len)) (hp : ps (.lshl) len pc L S = some (pc', L', S')) : Steps tb e below (T.setTop (mkF m pc L.toArray S)) (T.setTop (mkF m pc' L'.toArray S')) ∧ L'.length = L.length ∧ npc (.lshl) len pc = pc' := by
  simp only [ps, pLI] at hp
  split at hp
  · split at hp
    · rename_i hc
      subst hc
      cases hp
      exact ⟨XT.lshl h hx rfl hd rfl (Steps.refl _), rfl, rfl⟩
    · cases hp
  · cases hp
theorem s_lshr (h : At T m c below) (hx : tb.exec = Jvm.exec) (hd : decode c.code pc = .ok (.lshr, len)) (hp : ps (.lshr) len pc L S = some (pc', L', S')) : Steps tb e below (T.setTop (mkF m pc L.toArray S)) (T.setTop (mkF m pc' L'.toArray S')) ∧ L'.length = L.length ∧ npc (.lshr) len pc = pc' := by
  simp only [ps, pLI] at hp
  split at hp
  · split at hp
    · rename_i hc
      subst hc
      cases hp
      exact ⟨XT.lshr h hx rfl hd rfl (Steps.refl _), rfl, rfl⟩
    · cases hp
  · cases hp
theorem s_lushr (h : At T m c below) (hx : tb.exec = Jvm.exec) (hd : decode c.code pc = .ok (.lushr, len)) (hp : ps (.lushr) len pc L S = some (pc', L', S')) : Steps tb e below (T.setTop (mkF m pc L.toArray S)) (T.setTop (mkF m pc' L'.toArray S')) ∧ L'.length = L.length ∧ npc (.lushr) len pc = pc' := by
  simp only [ps, pLI] at hp
  split at hp
  · split at hp
    · rename_i hc
      subst hc
      cases hp
      exact ⟨XT.lushr h hx rfl hd rfl (Steps.refl _), rfl, rfl⟩
    · cases hp
  · cases hp
theorem s_i2l (h : At T m c below) (hx : tb.exec = Jvm.exec) (hd : decode c.code pc = .ok (.i2l, len)) (hp : ps (.i2l) len pc L S = some (pc', L', S')) : Steps tb e below (T.setTop (mkF m pc L.toArray S)) (T.setTop (mkF m pc' L'.toArray S')) ∧ L'.length = L.length ∧ npc (.i2l) len pc = pc' := by
  simp only [ps, pI1] at hp
  split at hp
  · split at hp
    · rename_i hc
      subst hc
      cases hp
      exact ⟨XT.i2l h hx rfl hd rfl (Steps.refl _), rfl, rfl⟩
    · cases hp
  · cases hp
theorem s_i2b (h : At T m c below) (hx : tb.exec = Jvm.exec) (hd : decode c.code pc = .ok (.i2b, len)) (hp : ps (.i2b) len pc L S = some (pc', L', S')) : Steps tb e below (T.setTop (mkF m pc L.toArray S)) (T.setTop (mkF m pc' L'.toArray S')) ∧ L'.length = L.length ∧ npc (.i2b) len pc = pc' := by
  simp only [ps, pI1] at hp
  split at hp
  · split at hp
    · rename_i hc
      subst hc
      cases hp
      exact ⟨XT.i2b h hx rfl hd rfl (Steps.refl _), rfl, rfl⟩
    · cases hp
  · cases hp
theorem s_i2c (h : At T m c below) (hx : tb.exec = Jvm.exec) (hd : decode c.code pc = .ok (.i2c, len)) (hp : ps (.i2c) len pc L S = some (pc', L', S')) : Steps tb e below (T.setTop (mkF m pc L.toArray S)) (T.setTop (mkF m pc' L'.toArray S')) ∧ L'.length = L.length ∧ npc (.i2c) len pc = pc' := by
  simp only [ps, pI1] at hp
  split at hp
  · split at hp
    · rename_i hc
      subst hc
      cases hp
      exact ⟨XT.i2c h hx rfl hd rfl (Steps.refl _), rfl, rfl⟩
    · cases hp
  · cases hp
theorem s_i2s (h : At T m c below) (hx : tb.exec = Jvm.exec) (hd : decode c.code pc = .ok (.i2s, len)) (hp : ps (.i2s) len pc L S = some (pc', L', S')) : Steps tb e below (T.setTop (mkF m pc L.toArray S)) (T.setTop (mkF m pc' L'.toArray S')) ∧ L'.length = L.length ∧ npc (.i2s) len pc = pc' := by
  simp only [ps, pI1] at hp
  split at hp
  · split at hp
    · rename_i hc
      subst hc
      cases hp
      exact ⟨XT.i2s h hx rfl hd rfl (Steps.refl _), rfl, rfl⟩
    · cases hp
  · cases hp
theorem s_ineg (h : At T m c below) (hx : tb.exec = Jvm.exec) (hd : decode c.code pc = .ok (.ineg, len)) (hp : ps (.ineg) len pc L S = some (pc', L', S')) : Steps tb e below (T.setTop (mkF m pc L.toArray S)) (T.setTop (mkF m pc' L'.toArray S')) ∧ L'.length = L.length ∧ npc (.ineg) len pc = pc' := by
  simp only [ps, pI1] at hp
  split at hp
  · split at hp
    · rename_i hc
      subst hc
      cases hp
      exact ⟨XS.ineg h hx rfl hd rfl (Steps.refl _), rfl, rfl⟩
    · cases hp
  · cases hp
theorem s_l2i (h : At T m c below) (hx : tb.exec = Jvm.exec) (hd : decode c.code pc = .ok (.l2i, len)) (hp : ps (.l2i) len pc L S = some (pc', L', S')) : Steps tb e below (T.setTop (mkF m pc L.toArray S)) (T.setTop (mkF m pc' L'.toArray S')) ∧ L'.length = L.length ∧ npc (.l2i) len pc = pc' := by
  simp only [ps, pL1] at hp
  split at hp
  · split at hp
    · rename_i hc
      subst hc
      cases hp
      exact ⟨XT.l2i h hx rfl hd rfl (Steps.refl _), rfl, rfl⟩
    · cases hp
  · cases hp
theorem s_lneg (h : At T m c below) (hx : tb.exec = Jvm.exec) (hd : decode c.code pc = .ok (.lneg, len)) (hp : ps (.lneg) len pc L S = some (pc', L', S')) : Steps tb e below (T.setTop (mkF m pc L.toArray S)) (T.setTop (mkF m pc' L'.toArray S')) ∧ L'.length = L.length ∧ npc (.lneg) len pc = pc' := by
  simp only [ps, pL1] at hp
  split at hp
  · split at hp
    · rename_i hc
      subst hc
      cases hp
      exact ⟨XT.lneg h hx rfl hd rfl (Steps.refl _), rfl, rfl⟩
    · cases hp
  · cases hp
theorem s_pop (h : At T m c below) (hx : tb.exec = Jvm.exec) (hd : decode c.code pc = .ok (.pop, len)) (hp : ps (.pop) len pc L S = some (pc', L', S')) : Steps tb e below (T.setTop (mkF m pc L.toArray S)) (T.setTop (mkF m pc' L'.toArray S')) ∧ L'.length = L.length ∧ npc (.pop) len pc = pc' := by
  simp only [ps, pPop] at hp
  split at hp
  · split at hp
    · rename_i hc
      obtain ⟨rfl, h1⟩ := hc
      cases hp
      exact ⟨XT.pop h hx rfl hd rfl h1 (Steps.refl _), rfl, rfl⟩
    · cases hp
  · cases hp
theorem s_dup (h : At T m c below) (hx : tb.exec = Jvm.exec) (hd : decode c.code pc = .ok (.dup, len)) (hp : ps (.dup) len pc L S = some (pc', L', S')) : Steps tb e below (T.setTop (mkF m pc L.toArray S)) (T.setTop (mkF m pc' L'.toArray S')) ∧ L'.length = L.length ∧ npc (.dup) len pc = pc' := by
  simp only [ps, pDup] at hp
  split at hp
  · split at hp
    · rename_i hc
      obtain ⟨rfl, h1⟩ := hc
      cases hp
      exact ⟨XS.dup h hx rfl hd rfl h1 (Steps.refl _), rfl, rfl⟩
    · cases hp
  · cases hp
theorem s_dupx1 (h : At T m c below) (hx : tb.exec = Jvm.exec) (hd : decode c.code pc = .ok (.dup_x1, len)) (hp : ps (.dup_x1) len pc L S = some (pc', L', S')) : Steps tb e below (T.setTop (mkF m pc L.toArray S)) (T.setTop (mkF m pc' L'.toArray S')) ∧ L'.length = L.length ∧ npc (.dup_x1) len pc = pc' := by
  simp only [ps, pDupX1] at hp
  split at hp
  · split at hp
    · rename_i hc
      obtain ⟨rfl, h1, h2⟩ := hc
      cases hp
      exact ⟨XT.dupX1 h hx rfl hd rfl h1 h2 (Steps.refl _), rfl, rfl⟩
    · cases hp
  · cases hp
theorem s_dup2 (h : At T m c below) (hx : tb.exec = Jvm.exec) (hd : decode c.code pc = .ok (.dup2, len)) (hp : ps (.dup2) len pc L S = some (pc', L', S')) : Steps tb e below (T.setTop (mkF m pc L.toArray S)) (T.setTop (mkF m pc' L'.toArray S')) ∧ L'.length = L.length ∧ npc (.dup2) len pc = pc' := by
  simp only [ps, pDup2] at hp
  split at hp
  · split at hp
    · rename_i hc
      subst hc
      cases hp
      exact ⟨XT.dup2L h hx rfl hd rfl (Steps.refl _), rfl, rfl⟩
    · cases hp
  · split at hp
    · rename_i hc
      obtain ⟨rfl, h1, h2⟩ := hc
      cases hp
      exact ⟨XT.dup2 h hx rfl hd rfl h1 h2 (Steps.refl _), rfl, rfl⟩
    · cases hp
  · cases hp
theorem s_goto (h : At T m c below) (hx : tb.exec = Jvm.exec) {o : Int} (hd : decode c.code pc = .ok (.goto o, len)) (hp : ps (.goto o) len pc L S = some (pc', L', S')) : Steps tb e below (T.setTop (mkF m pc L.toArray S)) (T.setTop (mkF m pc' L'.toArray S')) ∧ L'.length = L.length ∧ npc (.goto o) len pc = pc' := by
  simp only [ps, pGo] at hp
  split at hp
  · rename_i hc
    obtain ⟨rfl, h1⟩ := hc
    cases hp
    exact ⟨XS.goto h hx rfl (pc0 := pc) rfl hd h1 rfl (Steps.refl _), rfl, rfl⟩
  · cases hp
theorem ps_sound (h : At T m c below) (hx : tb.exec = Jvm.exec) {i : Instr} (hd : decode c.code pc = .ok (i, len)) (hp : ps i len pc L S = some (pc', L', S')) : Steps tb e below (T.setTop (mkF m pc L.toArray S)) (T.setTop (mkF m pc' L'.toArray S')) ∧ L'.length = L.length ∧ npc i len pc = pc' := by
  cases i
  case iconst => exact s_nop1 h hx hd hp
  case bipush => exact s_bipush h hx hd hp
  case sipush => exact s_sipush h hx hd hp
  case lconst => exact s_lconst h hx hd hp
  case aconst_null => exact s_anull h hx hd hp
  case iload_n => exact s_iloadN h hx hd hp
  case iload => exact s_iload h hx hd hp
  case lload_n => exact s_lloadN h hx hd hp
  case lload => exact s_lload h hx hd hp
  case aload_n => exact s_aloadN h hx hd hp
  case aload => exact s_aload h hx hd hp
  case istore_n => exact s_istoreN h hx hd hp
  case istore => exact s_istore h hx hd hp
  case lstore_n => exact s_lstoreN h hx hd hp
  case lstore => exact s_lstore h hx hd hp
  case astore_n => exact s_astoreN h hx hd hp
  case astore => exact s_astore h hx hd hp
  case iinc => exact s_iinc h hx hd hp
  case iadd => exact s_iadd h hx hd hp
  case isub => exact s_isub h hx hd hp
  case imul => exact s_imul h hx hd hp
  case iand => exact s_iand h hx hd hp
  case ior => exact s_ior h hx hd hp
  case ixor => exact s_ixor h hx hd hp
  case ishl => exact s_ishl h hx hd hp
  case ishr => exact s_ishr h hx hd hp
  case iushr => exact s_iushr h hx hd hp
  case ladd => exact s_ladd h hx hd hp
  case lsub => exact s_lsub h hx hd hp
  case lmul => exact s_lmul h hx hd hp
  case land => exact s_land h hx hd hp
  case lor => exact s_lor h hx hd hp
  case lxor => exact s_lxor h hx hd hp
  case lcmp => exact s_lcmp h hx hd hp
  case lshl => exact s_lshl h hx hd hp
  case lshr => exact s_lshr h hx hd hp
  case lushr => exact s_lushr h hx hd hp
  case i2l => exact s_i2l h hx hd hp
  case i2b => exact s_i2b h hx hd hp
  case i2c => exact s_i2c h hx hd hp
  case i2s => exact s_i2s h hx hd hp
  case ineg => exact s_ineg h hx hd hp
  case l2i => exact s_l2i h hx hd hp
  case lneg => exact s_lneg h hx hd hp
  case pop => exact s_pop h hx hd hp
  case dup => exact s_dup h hx hd hp
  case dup_x1 => exact s_dupx1 h hx hd hp
  case dup2 => exact s_dup2 h hx hd hp
  case goto => exact s_goto h hx hd hp
  all_goals (exact absurd hp (by simp [ps]))
end P
theorem runs_sound {tb : Tables} [Ours tb] {e : Env} {below : List Frame} {T : State} {m : MethodId} {c : Code} (h : At T m c below) (hx : tb.exec = Jvm.exec) : ∀ (is : List (Instr × Nat)) {pc : Nat} {L : List Slot} {S : List Value} {pc' : Nat} {L' : List Slot} {S' : List Value},
    seg c.code is pc = true → runs is pc L S = some (pc', L', S') → Steps tb e below (T.setTop (mkF m pc L.toArray S)) (T.setTop (mkF m pc' L'.toArray S')) ∧ L'.length = L.length
  | [], pc, L, S, pc', L', S', _, hr => by cases hr; exact ⟨Steps.refl _, rfl⟩
  | (i, len) :: r, pc, L, S, pc', L', S', hs, hr => by
    simp only [seg, Bool.and_eq_true] at hs
    obtain ⟨h1, h2⟩ := hs
    simp only [runs] at hr
    split at hr
    · rename_i pc1 L1 S1 hp
      split at h1
      · rename_i j n hd
        simp only [decide_eq_true_eq] at h1
        obtain ⟨rfl, rfl⟩ := h1
        obtain ⟨q1, q2, e⟩ := ps_sound h hx hd hp
        rw [e] at h2
        obtain ⟨q3, q4⟩ := runs_sound h hx r h2 hr
        exact ⟨q1.trans q3, q4.trans q2⟩
      · cases h1
    · cases hr
end Jvm.WK
namespace Jvm.WK
open Sem ClassFile Op Lib Jvm.Stand Jvm.Free Jvm.LawKit Jvm.RoadKit
/-! ## 4. the heap's list over a step -/
section H
variable {κ : Cx} {vm vm1 : Vm} {h h' : Heap} {l : List Chunk} {a : Addr} {sl : Nat} {v : Value}
theorem Holds.lt : ∀ {x : Chunk}, Holds κ h x → x.1 < h.size
  | (a, _, .inl (C, fs)), H => H.1.lt
  | (a, _, .inr (ty, vs)), ⟨c, A, _, _⟩ => A.lt
theorem Holds.ext (E : Ext h h') : ∀ {x : Chunk}, Holds κ h x → Holds κ h' x
  | (a, _, .inl (C, fs)), H => ⟨H.1.ext E, fun f hf => (H.2.1 f hf).ext E, H.2.2⟩
  | (a, _, .inr (ty, vs)), ⟨c, A, e, o, q⟩ => ⟨c, A.ext E, e, o, fun a b => (q a b).ext E⟩
theorem Holds.other (W : Wr h h' a sl v) : ∀ {x : Chunk}, Holds κ h x → x.1 ≠ a → Holds κ h' x
  | (b, _, .inl (C, fs)), H, hne => ⟨H.1.wr W, fun f hf => (H.2.1 f hf).other W (Or.inl hne), H.2.2⟩
  | (b, _, .inr (ty, vs)), ⟨c, A, e, o, q⟩, hne => ⟨c, A.other W hne, e, o, fun a b => (q a b).wr W⟩
theorem Hp.ext (E : Ext h h') (A : CHr (kZ κ) (kE κ) vm h vm1 h') (H : Hp κ vm h l) : Hp κ vm1 h' l :=
  ⟨fun x hx => (H.1 x hx).ext E, H.2.1, fun x hx hm => ⟨(H.2.2 x hx hm).1, A.safe (H.1 x hx).lt (H.2.2 x hx hm).2⟩⟩
theorem Ext.rfl' : Ext h h := ⟨Nat.le_refl _, fun _ _ q => q⟩
theorem Hp.warm (A : CHr (kZ κ) (kE κ) vm h vm1 h) (H : Hp κ vm h l) : Hp κ vm1 h l := H.ext Ext.rfl' A
theorem Hp.add (H : Hp κ vm h l) {x : Chunk} (hx : Holds κ h x) (hne : ∀ z ∈ l, (x.2.1 = true ∨ z.2.1 = true) → x.1 ≠ z.1) (hs : x.2.1 = true → (kZ κ).heap.size ≤ x.1 ∧ Safe (kZ κ) (kE κ) vm h x.1) : Hp κ vm h (x :: l) := by
  refine ⟨fun z hz => ?_, ?_, fun z hz hm => ?_⟩
  · rcases List.mem_cons.mp hz with rfl | hz
    · exact hx
    · exact H.1 z hz
  · rw [List.map_cons, List.pairwise_cons]
    refine ⟨fun q hq => ?_, H.2.1⟩
    obtain ⟨z, hz, rfl⟩ := List.mem_map.mp hq
    exact hne z hz
  · rcases List.mem_cons.mp hz with rfl | hz
    · exact hs hm
    · exact H.2.2 z hz hm
/-- a new cell, at the heap's end -/
theorem Hp.new (E : Ext h h') (A : CHr (kZ κ) (kE κ) vm h vm1 h') (H : Hp κ vm h l) (hn : (kZ κ).heap.size ≤ h.size) {mu : Bool} {c : String × List (String × String × String × Value) ⊕ FieldType × List Value} (hx : Holds κ h' (h.size, mu, c)) (hS : Safe (kZ κ) (kE κ) vm1 h' h.size) : Hp κ vm1 h' ((h.size, mu, c) :: l) :=
  (H.ext E A).add hx (fun z hz _ => Nat.ne_of_gt (H.1 z hz).lt) (fun _ => ⟨hn, hS⟩)
theorem getElem?_set_ne' {α : Type} {l : List α} {i j : Nat} {x : α} (h : i ≠ j) : (l.set i x)[j]? = l[j]? := List.getElem?_set_ne h
theorem Hp.apart (H : Hp κ vm h l) {i j : Nat} {x z : Chunk} (hi : l[i]? = some x) (hj : l[j]? = some z) (hne : i ≠ j) (hm : x.2.1 = true ∨ z.2.1 = true) : x.1 ≠ z.1 := by
  obtain ⟨hi', ei⟩ := List.getElem?_eq_some_iff.mp hi
  obtain ⟨hj', ej⟩ := List.getElem?_eq_some_iff.mp hj
  have P := List.pairwise_iff_getElem.mp H.2.1
  rcases Nat.lt_or_gt_of_ne hne with q | q
  · have := P i j (by simpa using hi') (by simpa using hj') q
    simp only [List.getElem_map, ei, ej] at this
    exact this hm
  · have := P j i (by simpa using hj') (by simpa using hi') q
    simp only [List.getElem_map, ei, ej] at this
    exact Ne.symm (this hm.symm)
/-- one slot of one cell that may be written -/
theorem Hp.wr (H : Hp κ vm h l) (hC : CHv (kZ κ) (kE κ) vm h) {i : Nat} {c c' : String × List (String × String × String × Value) ⊕ FieldType × List Value} (hi : l[i]? = some (a, true, c)) (W : Wr h h' a sl v) (hnew : Holds κ h' (a, true, c')) :
    Hp κ vm h' (l.set i (a, true, c')) ∧ CHv (kZ κ) (kE κ) vm h' := by
  have hS := (H.2.2 _ (List.mem_of_getElem? hi) rfl)
  have hW := hC.wrStep W hS.2
  refine ⟨⟨fun z hz => ?_, ?_, fun z hz hm => ?_⟩, hW.1⟩
  · obtain ⟨j, hj⟩ := List.mem_iff_getElem?.mp hz
    by_cases e : i = j
    · subst e
      have hlt := (List.getElem?_eq_some_iff.mp hi).1
      rw [List.getElem?_set_self hlt] at hj
      cases hj; exact hnew
    · rw [getElem?_set_ne' e] at hj
      exact (H.1 z (List.mem_of_getElem? hj)).other W (Ne.symm (H.apart hi hj e (Or.inl rfl)))
  · have e : (l.set i (a, true, c')).map key = l.map key := by
      apply List.ext_getElem?
      intro j
      simp only [List.getElem?_map]
      by_cases e : i = j
      · subst e
        rw [List.getElem?_set_self (List.getElem?_eq_some_iff.mp hi).1, hi]; rfl
      · rw [getElem?_set_ne' e]
    rw [e]; exact H.2.1
  · obtain ⟨j, hj⟩ := List.mem_iff_getElem?.mp hz
    by_cases e : i = j
    · subst e
      rw [List.getElem?_set_self (List.getElem?_eq_some_iff.mp hi).1] at hj
      cases hj
      exact ⟨hS.1, fun B => hS.2 (hW.2 _ B)⟩
    · rw [getElem?_set_ne' e] at hj
      have q := H.2.2 z (List.mem_of_getElem? hj) hm
      exact ⟨q.1, fun B => q.2 (hW.2 _ B)⟩
/-- chunks forgotten, turned round, no more to be written -/
theorem Hp.perm {l' : List Chunk} (H : Hp κ vm h l) (p : l.Perm l') : Hp κ vm h l' :=
  ⟨fun x hx => H.1 x (p.mem_iff.mpr hx), (List.Perm.pairwise_iff (fun {x y} (q : Apart x y) (m : y.2 = true ∨ x.2 = true) => Ne.symm (q m.symm)) (p.map key)).mp H.2.1, fun x hx => H.2.2 x (p.mem_iff.mpr hx)⟩
theorem Hp.drop {x : Chunk} (H : Hp κ vm h (x :: l)) : Hp κ vm h l :=
  ⟨fun z hz => H.1 z (List.mem_cons_of_mem _ hz), (List.pairwise_cons.mp H.2.1).2, fun z hz => H.2.2 z (List.mem_cons_of_mem _ hz)⟩
theorem Holds.mu {mu : Bool} {c : String × List (String × String × String × Value) ⊕ FieldType × List Value} (H : Holds κ h (a, mu, c)) : Holds κ h (a, false, c) := by
  rcases c with ⟨C, fs⟩ | ⟨ty, vs⟩
  · exact H
  · obtain ⟨c, A, e, o, q⟩ := H
    exact ⟨c, A, e, o, fun a => by cases a⟩
theorem Hp.freeze {mu : Bool} {c : String × List (String × String × String × Value) ⊕ FieldType × List Value} (H : Hp κ vm h ((a, mu, c) :: l)) : Hp κ vm h ((a, false, c) :: l) := by
  refine Hp.add H.drop (Holds.mu (H.1 _ (List.mem_cons_self ..))) (fun z hz hm => ?_) (fun q => by cases q)
  have P := (List.pairwise_cons.mp H.2.1).1 (key z) (List.mem_map_of_mem hz)
  refine P (Or.inr ?_)
  rcases hm with hm | hm
  · cases hm
  · exact hm
end H
/-! ## 5. from one state to the next -/
section N
variable {κ : Cx} {T : State} {y : MethodName} {pc pc' : Nat} {L L' : List Slot} {S S' : List Value} {F : List Frame} {l l' : List Chunk} {k n : Nat} {bytes : ByteArray} {mx : Nat} {rt : Option FieldType}
theorem Ok.exec (C : Ok κ) : (kp κ).tables.exec = Jvm.exec := C.2.2.2.1
theorem Ok.ew (C : Ok κ) : EW (kZ κ) (ka κ) (kE κ) := C.2.2.2.2.2.2.2.2.2.2.1
theorem Good.hp (G : Good κ T y pc L S F l k n) : Hp κ T.vm T.heap l := G.2.2.2.2.2.1
theorem Good.ch (G : Good κ T y pc L S F l k n) : CHv (kZ κ) (kE κ) T.vm T.heap := G.2.2.2.2.1
theorem Good.room (G : Good κ T y pc L S F l k n) : Rm κ F (0 + 1) (L.length + 11 + 0) := G.2.2.2.2.2.2.2.2.2.1
theorem Good.size (G : Good κ T y pc L S F l k n) : (kZ κ).heap.size ≤ T.heap.size := G.sb.2.1
theorem Good.cells (G : Good κ T y pc L S F l k n) : k ≤ (kR κ).cells := G.2.2.2.2.2.2.1
theorem Good.slots (G : Good κ T y pc L S F l k n) : n ≤ (kR κ).slots := G.2.2.2.2.2.2.2.1
theorem Good.old (G : Good κ T y pc L S F l k n) : Ext (kZ κ).heap T.heap := ⟨G.size, fun a c h => State.sameButNew.old_cell G.sb h⟩
theorem Good.own (G : Good κ T y pc L S F l k n) (M : Meth κ y bytes mx rt) : (base κ T y F).vm.findClass y.cls = some (mid κ y).cls := by
  show T.vm.findClass y.cls = _
  rw [G.alike.findClass]; exact M.cls
theorem Good.go (G : Good κ T y pc L S F l k n) {T' : State} {g' : JFrame} (st : ∀ target, Steps (kp κ).tables (ke κ) (F ++ kb κ) (T'.setTop g') target → Steps (kp κ).tables (ke κ) (F ++ kb κ) (T.setTop (mkF (mid κ y) pc L.toArray S)) target) (D : Done κ (T'.setTop g')) : Done κ T := by
  obtain ⟨t, h1, h2⟩ := D
  have q := st _ (Steps.refl _)
  have e : T.setTop (mkF (mid κ y) pc L.toArray S) = T := State.setTop_self (State.topJava?_of_frames G.1)
  rw [e] at q
  exact ⟨t, (steps_weaken q).trans h1, h2⟩
theorem resd_mono {s : State} {vm' : Vm} (h : s.Warmed39 vm') {p : String × Nat} (r : resd s.vm p = true) : resd vm' p = true := by
  unfold resd at r ⊢
  rw [h.alike.findClass]
  cases hc : s.vm.findClass p.1 with
  | none => simp [hc] at r
  | some c =>
    simp only [hc] at r ⊢
    cases hk : s.vm.classes[c]? with
    | none => simp [hk] at r
    | some k =>
      simp only [hk] at r
      obtain ⟨k', hk', -, -, ee, -⟩ := h.2.2.2 _ k hk
      rw [hk']
      rcases ee p.2 with e0 | ⟨hop, -⟩
      · simp only [e0]; exact r
      · simp only [hop] at r; cases r
theorem pend_mono {s : State} {vm' : Vm} (h : s.Warmed39 vm') : pend κ vm' ≤ pend κ s.vm := by
  unfold pend
  apply List.countP_mono_left
  intro p _ q
  simp only [Bool.not_eq_true'] at q ⊢
  cases r : resd s.vm p with
  | false => rfl
  | true => rw [resd_mono h r] at q; cases q
theorem Good.same' (G : Good κ T y pc L S F l k n) {U : State} {locs : List Loc} {cells slots : Nat} (hU : pend κ U.vm ≤ pend κ T.vm) (h : (base κ T y F).sameButNew (U.setVm (base κ T y F).vm) locs cells slots) (hlocs : ∀ x ∈ locs, (kZ κ).heap.size ≤ x.base) : Used κ U (k + cells) (n + slots) := by
  have q1 : T.sameButNew (U.setVm T.vm) locs cells slots := State.sameButNew.of_setFrames h
  obtain ⟨k0, n0, g, g1, g2⟩ := G.2.1
  have q2 := g.trans (q1.setVm (kZ κ).vm)
  have q3 : (kZ κ).sameButNew (U.setVm (kZ κ).vm) ([] ++ locs) (k0 + cells) (n0 + slots) := q2
  exact ⟨k0 + cells, n0 + slots, q3.sift fun x hx => Or.inr (hlocs x (by simpa using hx)), by omega, by omega⟩
theorem Used.setFrames {fs : List Frame} (h : Used κ T k n) (hcur : (kZ κ).cur < (kZ κ).threads.size) : Used κ (T.setFrames fs) k n := by
  obtain ⟨k0, n0, g, g1, g2⟩ := h
  exact ⟨k0, n0, g.setFrames _ hcur, g1, g2⟩
theorem Used.mono {k' n' : Nat} (h : Used κ T k n) (hk : k ≤ k') (hn : n ≤ n') : Used κ T k' n' := by
  obtain ⟨k0, n0, g, g1, g2⟩ := h
  exact ⟨k0, n0, g, by omega, by omega⟩
theorem Used.vm {vm' : Vm} (h : Used κ T k n) (hv : pend κ vm' ≤ pend κ T.vm) : Used κ (T.setVm vm') k n := by
  obtain ⟨k0, n0, g, g1, g2⟩ := h
  have e : pend κ (T.setVm vm').vm = pend κ vm' := rfl
  exact ⟨k0, n0, g, by omega, by omega⟩
theorem Good.since' (G : Good κ T y pc L S F l k n) {vm' : Vm} {n' : Nat} (hW : (base κ T y F).WarmedH vm') (hs : T.heap.size ≤ n') : (kZ κ).Since vm' n' := by
  have q : ((kZ κ).setVm T.vm).WarmedH vm' := State.WarmedH.of_rootvm (s := base κ T y F) rfl hW
  exact G.2.2.1.trans (q.since n') hs
theorem Good.strict' (G : Good κ T y pc L S F l k n) {vm' : Vm} (hW : (base κ T y F).WarmedH vm') (h : kS κ = true) : (kZ κ).WarmedH vm' :=
  State.WarmedH.trans (G.2.2.2.1 h) (State.WarmedH.of_rootvm (s := base κ T y F) (u := T) rfl hW)
theorem Good.next (G : Good κ T y pc L S F l k n) {R' : Room} {meth : Method} {c : Code} {T' : State} {locs : List Loc} {cells slots : Nat} (X' : Stand (kp κ) (kl κ) (ke κ) R' (base κ T y F) (mid κ y) (ka κ) (F ++ kb κ) meth c T' locs cells slots)
    (hlocs : ∀ x ∈ locs, (kZ κ).heap.size ≤ x.base) (hk : k + cells ≤ (kR κ).cells) (hn : n + slots ≤ (kR κ).slots) (hL : L'.length = L.length) (hC : CHv (kZ κ) (kE κ) T'.vm T'.heap) (hH : Hp κ T'.vm T'.heap l') :
    Good κ (T'.setTop (mkF (mid κ y) pc' L'.toArray S')) y pc' L' S' F l' (k + cells) (n + slots) := by
  obtain ⟨g₀, hfr⟩ := X'.frames_eq
  have q4 := G.same' (pend_mono (s := base κ T y F) X'.warmed.wide) X'.same hlocs
  have hsz : T.heap.size ≤ T'.heap.size := X'.same.2.1
  refine ⟨State.frames_setTop _ hfr, ?_, ?_, fun h => ?_, ?_, ?_, hk, hn, G.2.2.2.2.2.2.2.2.1, by rw [hL]; exact G.2.2.2.2.2.2.2.2.2.1, by rw [hL]; exact G.2.2.2.2.2.2.2.2.2.2⟩
  · have hcur : (kZ κ).cur < (kZ κ).threads.size := by
      have q := State.cur_lt_of_frames G.1
      have e1 := G.threads
      have e2 := G.curEq
      rw [e1, e2] at q
      simpa [State.setFrames] using q
    rw [State.setTop_of_frames _ hfr]
    exact q4.setFrames hcur
  · show (kZ κ).Since T'.vm T'.heap.size
    exact G.since' X'.warmed hsz
  · show (kZ κ).WarmedH T'.vm
    exact G.strict' X'.warmed h
  · exact hC
  · exact hH
/-- a step that has only warmed the tables -/
theorem Good.warmed (C : Ok κ) (G : Good κ T y pc L S F l k n) {R' : Room} {meth : Method} {c : Code} {T' : State} {locs : List Loc} {cells slots : Nat} (X' : Stand (kp κ) (kl κ) (ke κ) R' (base κ T y F) (mid κ y) (ka κ) (F ++ kb κ) meth c T' locs cells slots) : CHr (kZ κ) (kE κ) T.vm T.heap T'.vm T.heap :=
  CHv.at (s := base κ T y F) (vm0 := T.vm) X' G.warm C.ew G.ch
theorem nolocs {κ : Cx} : ∀ x ∈ ([] : List Loc), (kZ κ).heap.size ≤ x.base := fun _ h => nomatch h
theorem one_loc {κ : Cx} {a : Addr} {i : Nat} (h : (kZ κ).heap.size ≤ a) : ∀ x ∈ ([] ++ [(⟨a, i⟩ : Loc)]), (kZ κ).heap.size ≤ x.base := fun x hx => by
  simp only [List.nil_append, List.mem_singleton] at hx
  subst hx; exact h
/-- the pure stretch -/
theorem wp_seg (C : Ok κ) (M : Meth κ y bytes mx rt) (is : List (Instr × Nat)) (hs : seg bytes is pc = true) (hr : runs is pc L S = some (pc', L', S')) (K : WP κ y pc' L' S' F l k n) : WP κ y pc L S F l k n := fun T G => by
  obtain ⟨meth, c, X, hb, -⟩ := G.stand C M (d := 0) (w := 0) G.room
  obtain ⟨q1, q2⟩ := runs_sound X.here C.exec is (by rw [hb]; exact hs) hr
  exact G.go (T' := T) (fun target h => q1.trans h) (K _ (G.next X nolocs G.cells G.slots q2 G.ch G.hp))
end N
end Jvm.WK
namespace Jvm.WK
open Sem ClassFile Op Lib Jvm.Stand Jvm.Free Jvm.LawKit Jvm.RoadKit
/-! ## 6. the rules -/
/-- j is the place i of an array -/
def Ix (j : Int32) (i : Nat) : Prop := ¬ j < 0 ∧ j.toNatClampNeg = i
section R
variable {κ : Cx} {y : MethodName} {pc pc' : Nat} {L L' : List Slot} {S S' : List Value} {F : List Frame} {l l' : List Chunk} {k n : Nat} {bytes : ByteArray} {mx : Nat} {rt : Option FieldType}
theorem wp_ift (C : Ok κ) (M : Meth κ y bytes mx rt) {cd : ClassFile.Cond} {x : Int32} {o : Int} (hd : decode bytes pc = .ok (.ifCond cd o, 3)) (hc : ifCond.holds cd x = true) (hp : 0 ≤ (pc : Int) + o ∧ ((pc : Int) + o).toNat = pc') (K : WP κ y pc' L S F l k n) : WP κ y pc L (.int x :: S) F l k n := fun T G => by
  obtain ⟨meth, c, X, hb, -⟩ := G.stand C M (d := 0) (w := 0) G.room
  subst hb
  exact G.go (T' := T) (fun target h => XS.ifYes X.here C.exec rfl (pc0 := pc) rfl hd rfl hc hp.1 hp.2 h) (K _ (G.next X nolocs G.cells G.slots rfl G.ch G.hp))
theorem wp_iff (C : Ok κ) (M : Meth κ y bytes mx rt) {cd : ClassFile.Cond} {x : Int32} {o : Int} (hd : decode bytes pc = .ok (.ifCond cd o, 3)) (hc : ifCond.holds cd x = false) (K : WP κ y (pc + 3) L S F l k n) : WP κ y pc L (.int x :: S) F l k n := fun T G => by
  obtain ⟨meth, c, X, hb, -⟩ := G.stand C M (d := 0) (w := 0) G.room
  subst hb
  exact G.go (T' := T) (fun target h => XS.ifNo X.here C.exec rfl hd rfl hc h) (K _ (G.next X nolocs G.cells G.slots rfl G.ch G.hp))
theorem wp_ict (C : Ok κ) (M : Meth κ y bytes mx rt) {cd : ClassFile.Cond} {x z : Int32} {o : Int} (hd : decode bytes pc = .ok (.if_icmp cd o, 3)) (hc : if_icmp.holds cd x z = true) (hp : 0 ≤ (pc : Int) + o ∧ ((pc : Int) + o).toNat = pc') (K : WP κ y pc' L S F l k n) : WP κ y pc L (.int z :: .int x :: S) F l k n := fun T G => by
  obtain ⟨meth, c, X, hb, -⟩ := G.stand C M (d := 0) (w := 0) G.room
  subst hb
  exact G.go (T' := T) (fun target h => XS.icmpYes X.here C.exec rfl (pc0 := pc) rfl hd rfl hc hp.1 hp.2 h) (K _ (G.next X nolocs G.cells G.slots rfl G.ch G.hp))
theorem wp_icf (C : Ok κ) (M : Meth κ y bytes mx rt) {cd : ClassFile.Cond} {x z : Int32} {o : Int} (hd : decode bytes pc = .ok (.if_icmp cd o, 3)) (hc : if_icmp.holds cd x z = false) (K : WP κ y (pc + 3) L S F l k n) : WP κ y pc L (.int z :: .int x :: S) F l k n := fun T G => by
  obtain ⟨meth, c, X, hb, -⟩ := G.stand C M (d := 0) (w := 0) G.room
  subst hb
  exact G.go (T' := T) (fun target h => XS.icmpNo X.here C.exec rfl hd rfl hc h) (K _ (G.next X nolocs G.cells G.slots rfl G.ch G.hp))
theorem wp_nullt (C : Ok κ) (M : Meth κ y bytes mx rt)  {o : Int} (hd : decode bytes pc = .ok (.ifnull o, 3))  (hp : 0 ≤ (pc : Int) + o ∧ ((pc : Int) + o).toNat = pc') (K : WP κ y pc' L S F l k n) : WP κ y pc L (.null :: S) F l k n := fun T G => by
  obtain ⟨meth, c, X, hb, -⟩ := G.stand C M (d := 0) (w := 0) G.room
  subst hb
  exact G.go (T' := T) (fun target h => XS.ifnullYes X.here C.exec rfl (pc0 := pc) rfl hd rfl hp.1 hp.2 h) (K _ (G.next X nolocs G.cells G.slots rfl G.ch G.hp))
theorem wp_nullf (C : Ok κ) (M : Meth κ y bytes mx rt) {b : Addr} {o : Int} (hd : decode bytes pc = .ok (.ifnull o, 3))  (K : WP κ y (pc + 3) L S F l k n) : WP κ y pc L (.ref b :: S) F l k n := fun T G => by
  obtain ⟨meth, c, X, hb, -⟩ := G.stand C M (d := 0) (w := 0) G.room
  subst hb
  exact G.go (T' := T) (fun target h => XS.ifnullNo X.here C.exec rfl hd rfl h) (K _ (G.next X nolocs G.cells G.slots rfl G.ch G.hp))
theorem wp_nonnullt (C : Ok κ) (M : Meth κ y bytes mx rt) {b : Addr} {o : Int} (hd : decode bytes pc = .ok (.ifnonnull o, 3))  (hp : 0 ≤ (pc : Int) + o ∧ ((pc : Int) + o).toNat = pc') (K : WP κ y pc' L S F l k n) : WP κ y pc L (.ref b :: S) F l k n := fun T G => by
  obtain ⟨meth, c, X, hb, -⟩ := G.stand C M (d := 0) (w := 0) G.room
  subst hb
  exact G.go (T' := T) (fun target h => XT.ifnonnullYes X.here C.exec rfl (pc0 := pc) rfl hd rfl hp.1 hp.2 h) (K _ (G.next X nolocs G.cells G.slots rfl G.ch G.hp))
theorem wp_nonnullf (C : Ok κ) (M : Meth κ y bytes mx rt)  {o : Int} (hd : decode bytes pc = .ok (.ifnonnull o, 3))  (K : WP κ y (pc + 3) L S F l k n) : WP κ y pc L (.null :: S) F l k n := fun T G => by
  obtain ⟨meth, c, X, hb, -⟩ := G.stand C M (d := 0) (w := 0) G.room
  subst hb
  exact G.go (T' := T) (fun target h => XT.ifnonnullNo X.here C.exec rfl hd rfl h) (K _ (G.next X nolocs G.cells G.slots rfl G.ch G.hp))
theorem wp_act (C : Ok κ) (M : Meth κ y bytes mx rt) {cd : ClassFile.ACond} {x z : Value} {o : Int} (hd : decode bytes pc = .ok (.if_acmp cd o, 3)) (h1 : x.isRef = true) (h2 : z.isRef = true) (hc : XT.acmp cd x z = true) (hp : 0 ≤ (pc : Int) + o ∧ ((pc : Int) + o).toNat = pc') (K : WP κ y pc' L S F l k n) : WP κ y pc L (z :: x :: S) F l k n := fun T G => by
  obtain ⟨meth, c, X, hb, -⟩ := G.stand C M (d := 0) (w := 0) G.room
  subst hb
  exact G.go (T' := T) (fun target h => XT.acmpYes X.here C.exec rfl (pc0 := pc) rfl hd rfl h1 h2 hc hp.1 hp.2 h) (K _ (G.next X nolocs G.cells G.slots rfl G.ch G.hp))
theorem wp_acf (C : Ok κ) (M : Meth κ y bytes mx rt) {cd : ClassFile.ACond} {x z : Value} {o : Int} (hd : decode bytes pc = .ok (.if_acmp cd o, 3)) (h1 : x.isRef = true) (h2 : z.isRef = true) (hc : XT.acmp cd x z = false) (K : WP κ y (pc + 3) L S F l k n) : WP κ y pc L (z :: x :: S) F l k n := fun T G => by
  obtain ⟨meth, c, X, hb, -⟩ := G.stand C M (d := 0) (w := 0) G.room
  subst hb
  exact G.go (T' := T) (fun target h => XT.acmpNo X.here C.exec rfl hd rfl h1 h2 hc h) (K _ (G.next X nolocs G.cells G.slots rfl G.ch G.hp))
theorem wp_tsw (C : Ok κ) (M : Meth κ y bytes mx rt) {dflt low high : Int} {offs : Array Int} {len : Nat} {i : Int32} {o : Int} (hd : decode bytes pc = .ok (.tableswitch dflt low high offs, len)) (hin : ¬ (i.toInt < low ∨ i.toInt > high)) (hoff : offs[(i.toInt - low).toNat]? = some o) (hp : 0 ≤ (pc : Int) + o ∧ ((pc : Int) + o).toNat = pc') (K : WP κ y pc' L S F l k n) : WP κ y pc L (.int i :: S) F l k n := fun T G => by
  obtain ⟨meth, c, X, hb, -⟩ := G.stand C M (d := 0) (w := 0) G.room
  subst hb
  exact G.go (T' := T) (fun target h => XS.tswIn X.here C.exec rfl (pc0 := pc) rfl hd rfl hin hoff hp.1 hp.2 h) (K _ (G.next X nolocs G.cells G.slots rfl G.ch G.hp))
theorem wp_tswd (C : Ok κ) (M : Meth κ y bytes mx rt) {dflt low high : Int} {offs : Array Int} {len : Nat} {i : Int32} (hd : decode bytes pc = .ok (.tableswitch dflt low high offs, len)) (hout : i.toInt < low ∨ i.toInt > high) (hp : 0 ≤ (pc : Int) + dflt ∧ ((pc : Int) + dflt).toNat = pc') (K : WP κ y pc' L S F l k n) : WP κ y pc L (.int i :: S) F l k n := fun T G => by
  obtain ⟨meth, c, X, hb, -⟩ := G.stand C M (d := 0) (w := 0) G.room
  subst hb
  exact G.go (T' := T) (fun target h => XS.tswOut X.here C.exec rfl (pc0 := pc) rfl hd rfl hout hp.1 hp.2 h) (K _ (G.next X nolocs G.cells G.slots rfl G.ch G.hp))
theorem wp_irem (C : Ok κ) (M : Meth κ y bytes mx rt) {x z : Int32} (hd : decode bytes pc = .ok (.irem, 1)) (hz : z ≠ 0) (K : WP κ y (pc + 1) L (.int (x % z) :: S) F l k n) : WP κ y pc L (.int z :: .int x :: S) F l k n := fun T G => by
  obtain ⟨meth, c, X, hb, -⟩ := G.stand C M (d := 0) (w := 0) G.room
  subst hb
  exact G.go (T' := T) (fun target h => iremM X C.exec rfl hd rfl hz h) (K _ (G.next X nolocs G.cells G.slots rfl G.ch G.hp))
theorem wp_lrem (C : Ok κ) (M : Meth κ y bytes mx rt) {x z : Int64} (hd : decode bytes pc = .ok (.lrem, 1)) (hz : z ≠ 0) (K : WP κ y (pc + 1) L (.long (x - (x / z) * z) :: S) F l k n) : WP κ y pc L (.long z :: .long x :: S) F l k n := fun T G => by
  obtain ⟨meth, c, X, hb, -⟩ := G.stand C M (d := 0) (w := 0) G.room
  subst hb
  exact G.go (T' := T) (fun target h => XT.lrem X.here C.exec rfl hd rfl hz h) (K _ (G.next X nolocs G.cells G.slots rfl G.ch G.hp))
theorem wp_pop2 (C : Ok κ) (M : Meth κ y bytes mx rt) {x : Int64} (hd : decode bytes pc = .ok (.pop2, 1)) (K : WP κ y (pc + 1) L S F l k n) : WP κ y pc L (.long x :: S) F l k n := fun T G => by
  obtain ⟨meth, c, X, hb, -⟩ := G.stand C M (d := 0) (w := 0) G.room
  subst hb
  refine G.go (T' := T) (fun target h => ?_) (K _ (G.next X nolocs G.cells G.slots rfl G.ch G.hp))
  have hA := X.here
  jvm_step hA [hA.top, C.exec, hd, Value.category]
  exact h
theorem wp_ldcI (C : Ok κ) (M : Meth κ y bytes mx rt) {ix : Nat} {v : Int32} (hd : decode bytes pc = .ok (.ldc ix, 2)) (w : Wd κ (.constant y.cls ix v)) (K : WP κ y (pc + 2) L (.int v :: S) F l k n) : WP κ y pc L S F l k n := fun T G => by
  obtain ⟨meth, c, X, hb, -⟩ := G.stand C M (d := 0) (w := 0) G.room
  subst hb
  exact G.go (T' := T) (fun target h => ldcI X C.exec (G.own M) (mv (s := base κ T y F) G.warm w) rfl hd h) (K _ (G.next X nolocs G.cells G.slots rfl G.ch G.hp))
theorem wp_ldcWI (C : Ok κ) (M : Meth κ y bytes mx rt) {ix : Nat} {v : Int32} (hd : decode bytes pc = .ok (.ldc_w ix, 3)) (w : Wd κ (.constant y.cls ix v)) (K : WP κ y (pc + 3) L (.int v :: S) F l k n) : WP κ y pc L S F l k n := fun T G => by
  obtain ⟨meth, c, X, hb, -⟩ := G.stand C M (d := 0) (w := 0) G.room
  subst hb
  exact G.go (T' := T) (fun target h => ldcWI X C.exec (G.own M) (mv (s := base κ T y F) G.warm w) rfl hd h) (K _ (G.next X nolocs G.cells G.slots rfl G.ch G.hp))
theorem wp_ldc2 (C : Ok κ) (M : Meth κ y bytes mx rt) {ix : Nat} {v : Int64} (hd : decode bytes pc = .ok (.ldc2_w ix, 3)) (w : Wd κ (.constantLong y.cls ix v)) (K : WP κ y (pc + 3) L (.long v :: S) F l k n) : WP κ y pc L S F l k n := fun T G => by
  obtain ⟨meth, c, X, hb, -⟩ := G.stand C M (d := 0) (w := 0) G.room
  subst hb
  exact G.go (T' := T) (fun target h => ldc2J X C.exec (G.own M) (mv (s := base κ T y F) G.warm w) rfl hd h) (K _ (G.next X nolocs G.cells G.slots rfl G.ch G.hp))
/-- the pool's name of the field leads to its declarer's -/
def ViaW (κ : Cx) (R0 O nm d : String) : Prop := R0 = O ∨ Wd κ (.sameField R0 O nm d)
theorem ViaW.via {R0 O nm d : String} (h : ViaW κ R0 O nm d) : Via (kZ κ) R0 O nm d := by
  rcases h with rfl | h
  · exact Via.refl
  · exact Via.of h
theorem wp_getfield (C : Ok κ) (M : Meth κ y bytes mx rt) {ix : Nat} (hd : decode bytes pc = .ok (.getfield ix, 3)) {R0 O nm d : String} (w : Wd κ (.fieldLink y.cls ix R0 nm d)) (via : ViaW κ R0 O nm d) {a : Addr} {mu : Bool} {Cl : String} {fs : List (String × String × String × Value)} (hm : (a, mu, .inl (Cl, fs)) ∈ l) {v : Value} (hf : (O, nm, d, v) ∈ fs)
    (K : WP κ y (pc + 3) L (v :: S) F l k n) : WP κ y pc L (.ref a :: S) F l k n := fun T G => by
  obtain ⟨meth, c, X, hb, -⟩ := G.stand C M (d := 0) (w := 0) G.room
  subst hb
  have H := G.hp.1 _ hm
  obtain ⟨T', X', e', st⟩ := getF X C.exec G.warm (G.own M) (host := "") (Or.inl w) via.via rfl (H.2.1 _ hf) (g := mkF (mid κ y) pc L.toArray (.ref a :: S)) rfl rfl hd
  have A := G.warmed C X'
  exact G.go st (K _ (G.next X' nolocs G.cells G.slots rfl (e' ▸ A.1) (e' ▸ G.hp.warm A)))
theorem wp_getstatic (C : Ok κ) (M : Meth κ y bytes mx rt) {ix : Nat} (hd : decode bytes pc = .ok (.getstatic ix, 3)) {R0 O nm d : String} (w : Wd κ (.fieldLink y.cls ix R0 nm d)) (via : ViaW κ R0 O nm d) {v : Value} (hs : Sta (kZ κ) (kZ κ).heap O nm d v)
    (K : WP κ y (pc + 3) L (v :: S) F l k n) : WP κ y pc L S F l k n := fun T G => by
  obtain ⟨meth, c, X, hb, -⟩ := G.stand C M (d := 0) (w := 0) G.room
  subst hb
  obtain ⟨T', X', e', st⟩ := getS X C.exec G.warm (G.own M) (host := "") w via.via rfl (hs.ext G.old) (g := mkF (mid κ y) pc L.toArray S) rfl hd
  have A := G.warmed C X'
  exact G.go st (K _ (G.next X' nolocs G.cells G.slots rfl (e' ▸ A.1) (e' ▸ G.hp.warm A)))
theorem Holds.put {h h' : Heap} {a : Addr} {mu : Bool} {Cl O nm d : String} {fs : List (String × String × String × Value)} {j : Nat} {old v : Value} (H : Holds κ h (a, mu, .inl (Cl, fs))) (hj : fs[j]? = some (O, nm, d, old)) (W : Wr h h' a (RoadKit.slotOf (kZ κ) O nm d) v) : Holds κ h' (a, mu, .inl (Cl, fs.set j (O, nm, d, v))) := by
  have hlt := (List.getElem?_eq_some_iff.mp hj).1
  have e : (fs.set j (O, nm, d, v)).map (fslot κ) = fs.map (fslot κ) := by
    apply List.ext_getElem?
    intro i
    simp only [List.getElem?_map]
    by_cases q : j = i
    · subst q; rw [List.getElem?_set_self hlt, hj]; rfl
    · rw [getElem?_set_ne' q]
  refine ⟨H.1.wr W, fun f hf => ?_, by rw [e]; exact H.2.2⟩
  obtain ⟨i, hi⟩ := List.mem_iff_getElem?.mp hf
  by_cases q : j = i
  · subst q
    rw [List.getElem?_set_self hlt] at hi
    cases hi
    exact (H.2.1 _ (List.mem_of_getElem? hj)).same W
  · rw [getElem?_set_ne' q] at hi
    refine (H.2.1 f (List.mem_of_getElem? hi)).other W (Or.inr fun es => ?_)
    have N := List.pairwise_iff_getElem.mp H.2.2
    have hil := (List.getElem?_eq_some_iff.mp hi)
    have hjl := (List.getElem?_eq_some_iff.mp hj)
    rcases Nat.lt_or_gt_of_ne q with r | r
    · have := N j i (by simpa using hlt) (by simpa using hil.1) r
      simp only [List.getElem_map, hil.2, hjl.2] at this
      exact this es.symm
    · have := N i j (by simpa using hil.1) (by simpa using hlt) r
      simp only [List.getElem_map, hil.2, hjl.2] at this
      exact this es
theorem wp_putfield (C : Ok κ) (M : Meth κ y bytes mx rt) {ix : Nat} (hd : decode bytes pc = .ok (.putfield ix, 3)) {R0 O nm d : String} (w : Wd κ (.fieldLink y.cls ix R0 nm d)) (via : ViaW κ R0 O nm d) {a : Addr} {Cl : String} {fs : List (String × String × String × Value)} {i j kk : Nat} {old v : Value} {ty : FieldType}
    (hi : l[i]? = some (a, true, .inl (Cl, fs))) (hj : fs[j]? = some (O, nm, d, old)) (hl : Wd κ (.lays Cl O nm d) ∨ (Wd κ (.laysFinal Cl O nm d) ∧ y.cls = O ∧ y.name = "<init>")) (wi : Wd κ (.instantiable Cl kk)) (hty : parseFieldDescriptor d = some ty) (hn : narrow ty v = v) (hf : fits ty v = true) (hl' : l.set i (a, true, .inl (Cl, fs.set j (O, nm, d, v))) = l')
    (K : WP κ y (pc + 3) L S F l' k n) : WP κ y pc L (v :: .ref a :: S) F l k n := fun T G => by
  obtain ⟨meth, c, X, hb, -⟩ := G.stand C M (d := 0) (w := 0) G.room
  subst hb
  have H := G.hp.1 _ (List.mem_of_getElem? hi)
  have hS := G.hp.2.2 _ (List.mem_of_getElem? hi) rfl
  obtain ⟨m1, c1, h1, h2, -⟩ := M.get
  have hname : meth.name = y.name := by
    have q : (kZ κ).vm.method? (mid κ y) = some meth := by
      have q := X.method'
      rw [G.alike.method?] at q; exact q
    exact (name_of_methodNamed h1 q).1
  obtain ⟨T', h', X', e', W, st⟩ := putF X C.exec G.warm (G.own M) (host := "") (Or.inl w) via.via rfl (H.2.1 _ (List.mem_of_getElem? hj)) H.1 (hl.imp id fun q => ⟨q.1, q.2.1, hname.trans q.2.2⟩) wi hty hn hf (g := mkF (mid κ y) pc L.toArray (v :: .ref a :: S)) rfl rfl hd
  have A := G.warmed C X'
  subst e'
  obtain ⟨q1, q2⟩ := (G.hp.warm A).wr A.1 hi W (H.put hj W)
  rw [hl'] at q1
  exact G.go st (K _ (G.next X' (one_loc hS.1) G.cells G.slots rfl q2 q1))
/-- what 'new' needs to know of a class -/
def Cls (κ : Cx) (Cl : String) (fs : List (String × String × String × Value)) : Prop :=
  (∀ f ∈ fs, Laid (kZ κ) (ka κ) Cl f.1 f.2.1 f.2.2.1 ∧ ∃ ty, parseFieldDescriptor f.2.2.1 = some ty ∧ f.2.2.2 = defaultValue ty) ∧ (fs.map (fslot κ)).Nodup
theorem wp_new (C : Ok κ) (M : Meth κ y bytes mx rt) {ix : Nat} (hd : decode bytes pc = .ok (.new ix, 3)) {Cl : String} {nn : Nat} (w1 : Wd κ (.classLink y.cls ix Cl)) (w2 : Wd κ (.instantiable Cl nn)) (w3 : Wd κ (.initialized Cl)) {fs : List (String × String × String × Value)} (hc : Cls κ Cl fs) (hk : k + 1 ≤ (kR κ).cells) (hn : n + nn ≤ (kR κ).slots)
    (K : ∀ a, WP κ y (pc + 3) L (.ref a :: S) F ((a, true, .inl (Cl, fs)) :: l) (k + 1) (n + nn)) : WP κ y pc L S F l k n := fun T G => by
  obtain ⟨meth, c, X, hb, -⟩ := G.stand C M (d := 0) (w := 0) G.room
  subst hb
  obtain ⟨T', h', X', e', E, A, D, -, st⟩ := newO X C.exec G.warm (G.own M) w1 w2 w3 rfl (g := mkF (mid κ y) pc L.toArray S) rfl hd (by show 0 + 1 ≤ (kR κ).cells - k; omega) (by show 0 + nn ≤ (kR κ).slots - n; omega)
  have B := G.warmed C X'
  have B2 : CHr (kZ κ) (kE κ) T.vm T.heap T'.vm h' := B.trans (CHr.ext E B.1)
  subst e'
  have hx : Holds κ T'.heap (T.heap.size, true, .inl (Cl, fs)) := ⟨A, fun f hf => by
    obtain ⟨hL, ty, ht, hv⟩ := hc.1 f hf
    rw [hv]; exact D hL ht, hc.2⟩
  have hS : Safe (kZ κ) (kE κ) T'.vm T'.heap T.heap.size := fun Bk => by
    have q := (B.1.step fun _ _ _ q => E.2 _ _ q).2 _ Bk
    obtain ⟨cell, hcell⟩ := q.there
    exact absurd (Array.getElem?_eq_some_iff.mp hcell).1 (Nat.lt_irrefl _)
  simp only [Nat.zero_add] at X'
  exact G.go st (K _ _ (G.next X' nolocs hk hn rfl B2.1 (Hp.new E B2 G.hp G.size hx hS)))
theorem wp_newarray (C : Ok κ) (M : Meth κ y bytes mx rt) {aty : ArrayType} (hd : decode bytes pc = .ok (.newarray aty, 2)) {ty : FieldType} (hty : newarray.typeOf aty = ty) (w : Wd κ (.arrayClass ty)) {z : Int32} {len : Nat} (hz : Ix z len) (hb : len * 8 ≤ 536870912) (hk : k + 1 ≤ (kR κ).cells) (hn : n + len ≤ (kR κ).slots) {vs : List Value} (hv : List.replicate len (defaultValue ty) = vs)
    (K : ∀ a, WP κ y (pc + 2) L (.ref a :: S) F ((a, true, .inr (ty, vs)) :: l) (k + 1) (n + len)) : WP κ y pc L (.int z :: S) F l k n := fun T G => by
  obtain ⟨meth, c, X, hbb, -⟩ := G.stand C M (d := 0) (w := 0) G.room
  subst hbb hty hv
  obtain ⟨T', h', cA, X', e', E, A, EB, st⟩ := newPE X C.exec G.warm w rfl (g := mkF (mid κ y) pc L.toArray (.int z :: S)) rfl hd rfl hz.1 (cap := len) (Nat.le_of_eq hz.2) hb (by show 0 + 1 ≤ (kR κ).cells - k; omega) (by show 0 + len ≤ (kR κ).slots - n; omega) rfl
  have B := G.warmed C X'
  have B2 : CHr (kZ κ) (kE κ) T.vm T.heap T'.vm h' := B.trans (CHr.ext E B.1)
  subst e'
  have hx : Holds κ T'.heap (T.heap.size, true, .inr (newarray.typeOf aty, List.replicate len (defaultValue (newarray.typeOf aty)))) := ⟨_, A, by simp [newA, hz.2], (fun C h => by cases aty <;> cases h), fun _ h => (by cases aty <;> first | cases h; done | exact EB)⟩
  have hS : Safe (kZ κ) (kE κ) T'.vm T'.heap T.heap.size := fun Bk => by
    have q := (B.1.step fun _ _ _ q => E.2 _ _ q).2 _ Bk
    obtain ⟨cell, hcell⟩ := q.there
    exact absurd (Array.getElem?_eq_some_iff.mp hcell).1 (Nat.lt_irrefl _)
  simp only [Nat.zero_add] at X'
  exact G.go st (K _ _ (G.next X' nolocs hk hn rfl B2.1 (Hp.new E B2 G.hp G.size hx hS)))
theorem wp_arraylength (C : Ok κ) (M : Meth κ y bytes mx rt) (hd : decode bytes pc = .ok (.arraylength, 1)) {a : Addr} {mu : Bool} {ty : FieldType} {vs : List Value} (hm : (a, mu, .inr (ty, vs)) ∈ l) {z : Int32} (hz : vs.length.toInt32 = z)
    (K : WP κ y (pc + 1) L (.int z :: S) F l k n) : WP κ y pc L (.ref a :: S) F l k n := fun T G => by
  obtain ⟨meth, c, X, hb, -⟩ := G.stand C M (d := 0) (w := 0) G.room
  subst hb
  obtain ⟨cl, A, ev, ov⟩ := G.hp.1 _ hm
  have e : cl.slots.size.toInt32 = z := by rw [← hz, ← ev]; simp
  refine G.go (T' := T) (fun target h => X.arraylength C.exec A.1 (State.isArrayOf_alike (T := base κ T y F) G.alike A.2.1) (g := mkF (mid κ y) pc L.toArray (.ref a :: S)) rfl rfl hd target ?_) (K _ (G.next X nolocs G.cells G.slots rfl G.ch G.hp))
  rw [e]; exact h
theorem ix_in {cl : Cell} {vs : List Value} {j : Int32} {i : Nat} {v : Value} (ev : cl.slots.toList = vs) (hj : Ix j i) (hv : vs[i]? = some v) : ¬ (j < 0 ∨ cl.slots.size ≤ j.toNatClampNeg) ∧ cl.slots[j.toNatClampNeg]? = some v := by
  subst ev
  have q : cl.slots[i]? = some v := by simpa using hv
  have q2 := (Array.getElem?_eq_some_iff.mp q).1
  rw [hj.2]
  refine ⟨fun r => ?_, q⟩
  rcases r with r | r
  · exact hj.1 r
  · omega
theorem wp_iaload (C : Ok κ) (M : Meth κ y bytes mx rt) (hd : decode bytes pc = .ok (.iaload, 1)) {a : Addr} {mu : Bool} {vs : List Value} (hm : (a, mu, .inr (.int, vs)) ∈ l) {j : Int32} {i : Nat} {v : Value} (hj : Ix j i) (hv : vs[i]? = some v)
    (K : WP κ y (pc + 1) L (v :: S) F l k n) : WP κ y pc L (.int j :: .ref a :: S) F l k n := fun T G => by
  obtain ⟨meth, c, X, hb, -⟩ := G.stand C M (d := 0) (w := 0) G.room
  subst hb
  obtain ⟨cl, A, ev, ov⟩ := G.hp.1 _ hm
  obtain ⟨q1, q2⟩ := ix_in ev hj hv
  exact G.go (T' := T) (fun target h => X.iaload C.exec A.1 (State.isArrayOf_alike (T := base κ T y F) G.alike A.2.1) A.2.2 q1 q2 (g := mkF (mid κ y) pc L.toArray (.int j :: .ref a :: S)) rfl rfl hd target h) (K _ (G.next X nolocs G.cells G.slots rfl G.ch G.hp))
theorem wp_laload (C : Ok κ) (M : Meth κ y bytes mx rt) (hd : decode bytes pc = .ok (.laload, 1)) {a : Addr} {mu : Bool} {vs : List Value} (hm : (a, mu, .inr (.long, vs)) ∈ l) {j : Int32} {i : Nat} {v : Value} (hj : Ix j i) (hv : vs[i]? = some v)
    (K : WP κ y (pc + 1) L (v :: S) F l k n) : WP κ y pc L (.int j :: .ref a :: S) F l k n := fun T G => by
  obtain ⟨meth, c, X, hb, -⟩ := G.stand C M (d := 0) (w := 0) G.room
  subst hb
  obtain ⟨cl, A, ev, ov⟩ := G.hp.1 _ hm
  obtain ⟨q1, q2⟩ := ix_in ev hj hv
  exact G.go (T' := T) (fun target h => X.laload C.exec A.1 (State.isArrayOf_alike (T := base κ T y F) G.alike A.2.1) A.2.2 q1 q2 (g := mkF (mid κ y) pc L.toArray (.int j :: .ref a :: S)) rfl rfl hd target h) (K _ (G.next X nolocs G.cells G.slots rfl G.ch G.hp))
theorem wp_caload (C : Ok κ) (M : Meth κ y bytes mx rt) (hd : decode bytes pc = .ok (.caload, 1)) {a : Addr} {mu : Bool} {vs : List Value} (hm : (a, mu, .inr (.char, vs)) ∈ l) {j : Int32} {i : Nat} {v : Value} (hj : Ix j i) (hv : vs[i]? = some v)
    (K : WP κ y (pc + 1) L (v :: S) F l k n) : WP κ y pc L (.int j :: .ref a :: S) F l k n := fun T G => by
  obtain ⟨meth, c, X, hb, -⟩ := G.stand C M (d := 0) (w := 0) G.room
  subst hb
  obtain ⟨cl, A, ev, ov⟩ := G.hp.1 _ hm
  obtain ⟨q1, q2⟩ := ix_in ev hj hv
  exact G.go (T' := T) (fun target h => X.caload C.exec A.1 (State.isArrayOf_alike (T := base κ T y F) G.alike A.2.1) A.2.2 q1 q2 (g := mkF (mid κ y) pc L.toArray (.int j :: .ref a :: S)) rfl rfl hd target h) (K _ (G.next X nolocs G.cells G.slots rfl G.ch G.hp))
theorem wp_baload (C : Ok κ) (M : Meth κ y bytes mx rt) (hd : decode bytes pc = .ok (.baload, 1)) {a : Addr} {mu : Bool} {vs : List Value} (hm : (a, mu, .inr (.byte, vs)) ∈ l) {j : Int32} {i : Nat} {v : Value} (hj : Ix j i) (hv : vs[i]? = some v)
    (K : WP κ y (pc + 1) L (v :: S) F l k n) : WP κ y pc L (.int j :: .ref a :: S) F l k n := fun T G => by
  obtain ⟨meth, c, X, hb, -⟩ := G.stand C M (d := 0) (w := 0) G.room
  subst hb
  obtain ⟨cl, A, ev, ov⟩ := G.hp.1 _ hm
  obtain ⟨q1, q2⟩ := ix_in ev hj hv
  exact G.go (T' := T) (fun target h => X.baloadBytes C.exec A.1 (State.isArrayOf_alike (T := base κ T y F) G.alike A.2.1) A.2.2 q1 q2 (g := mkF (mid κ y) pc L.toArray (.int j :: .ref a :: S)) rfl rfl hd target h) (K _ (G.next X nolocs G.cells G.slots rfl G.ch G.hp))
theorem wp_aaload (C : Ok κ) (M : Meth κ y bytes mx rt) (hd : decode bytes pc = .ok (.aaload, 1)) {a : Addr} {mu : Bool} {ty : FieldType} {vs : List Value} (hty : ty.isReference = true) (hm : (a, mu, .inr (ty, vs)) ∈ l) {j : Int32} {i : Nat} {v : Value} (hj : Ix j i) (hv : vs[i]? = some v)
    (K : WP κ y (pc + 1) L (v :: S) F l k n) : WP κ y pc L (.int j :: .ref a :: S) F l k n := fun T G => by
  obtain ⟨meth, c, X, hb, -⟩ := G.stand C M (d := 0) (w := 0) G.room
  subst hb
  obtain ⟨cl, A, ev, ov⟩ := G.hp.1 _ hm
  obtain ⟨q1, q2⟩ := ix_in ev hj hv
  exact G.go (T' := T) (fun target h => X.aaload C.exec A.1 (State.isArrayOf_alike (T := base κ T y F) G.alike A.2.1) hty A.2.2 q1 q2 (g := mkF (mid κ y) pc L.toArray (.int j :: .ref a :: S)) rfl rfl hd target h) (K _ (G.next X nolocs G.cells G.slots rfl G.ch G.hp))
theorem Holds.store {h h' : Heap} {a : Addr} {mu : Bool} {ty : FieldType} {vs : List Value} {i : Nat} {v : Value} (H : Holds κ h (a, mu, .inr (ty, vs))) (W : Wr h h' a i v) : Holds κ h' (a, mu, .inr (ty, vs.set i v)) := by
  obtain ⟨cl, A, ev, ov⟩ := H
  exact ⟨_, A.same W, by rw [← ev]; simp [Cell.setSlot], ov.1, fun a b => (ov.2 a b).wr W⟩
theorem wp_iastore (C : Ok κ) (M : Meth κ y bytes mx rt) (hd : decode bytes pc = .ok (.iastore, 1)) {a : Addr} {vs : List Value} {i j : Nat} {z : Int32} {x : Int32} {v' : Value} (hi : l[i]? = some (a, true, .inr (.int, vs))) (hj : Ix z j) (hv : j < vs.length) (hx : (.int x : Value) = v') (hl' : l.set i (a, true, .inr (.int, vs.set j v')) = l')
    (K : WP κ y (pc + 1) L S F l' k n) : WP κ y pc L (.int x :: .int z :: .ref a :: S) F l k n := fun T G => by
  obtain ⟨meth, c, X, hb, -⟩ := G.stand C M (d := 0) (w := 0) G.room
  subst hb hx
  have H := G.hp.1 _ (List.mem_of_getElem? hi)
  have hS := G.hp.2.2 _ (List.mem_of_getElem? hi) rfl
  obtain ⟨cl, A, ev, ov⟩ := H
  obtain ⟨q1, -⟩ := ix_in ev hj (List.getElem?_eq_getElem hv)
  obtain ⟨T', h', X', e', W, st⟩ := stI X C.exec (Z := kZ κ) G.warm rfl A (j := z) (x := x) q1 (g := mkF (mid κ y) pc L.toArray (.int x :: .int z :: .ref a :: S)) rfl rfl hd
  have B := G.warmed C X'
  subst e'
  rw [hj.2] at W
  obtain ⟨r1, r2⟩ := (G.hp.warm B).wr B.1 hi W (Holds.store ⟨cl, A, ev, ov⟩ W)
  have r1 : Hp κ T'.vm T'.heap l' := hl' ▸ r1
  exact G.go st (K _ (G.next X' (one_loc hS.1) G.cells G.slots rfl r2 r1))
theorem wp_lastore (C : Ok κ) (M : Meth κ y bytes mx rt) (hd : decode bytes pc = .ok (.lastore, 1)) {a : Addr} {vs : List Value} {i j : Nat} {z : Int32} {x : Int64} {v' : Value} (hi : l[i]? = some (a, true, .inr (.long, vs))) (hj : Ix z j) (hv : j < vs.length) (hx : (.long x : Value) = v') (hl' : l.set i (a, true, .inr (.long, vs.set j v')) = l')
    (K : WP κ y (pc + 1) L S F l' k n) : WP κ y pc L (.long x :: .int z :: .ref a :: S) F l k n := fun T G => by
  obtain ⟨meth, c, X, hb, -⟩ := G.stand C M (d := 0) (w := 0) G.room
  subst hb hx
  have H := G.hp.1 _ (List.mem_of_getElem? hi)
  have hS := G.hp.2.2 _ (List.mem_of_getElem? hi) rfl
  obtain ⟨cl, A, ev, ov⟩ := H
  obtain ⟨q1, -⟩ := ix_in ev hj (List.getElem?_eq_getElem hv)
  obtain ⟨T', h', X', e', W, st⟩ := stJ X C.exec (Z := kZ κ) G.warm rfl A (j := z) (x := x) q1 (g := mkF (mid κ y) pc L.toArray (.long x :: .int z :: .ref a :: S)) rfl rfl hd
  have B := G.warmed C X'
  subst e'
  rw [hj.2] at W
  obtain ⟨r1, r2⟩ := (G.hp.warm B).wr B.1 hi W (Holds.store ⟨cl, A, ev, ov⟩ W)
  have r1 : Hp κ T'.vm T'.heap l' := hl' ▸ r1
  exact G.go st (K _ (G.next X' (one_loc hS.1) G.cells G.slots rfl r2 r1))
theorem wp_castore (C : Ok κ) (M : Meth κ y bytes mx rt) (hd : decode bytes pc = .ok (.castore, 1)) {a : Addr} {vs : List Value} {i j : Nat} {z : Int32} {x : Int32} {v' : Value} (hi : l[i]? = some (a, true, .inr (.char, vs))) (hj : Ix z j) (hv : j < vs.length) (hx : (.int x.toUInt32.toUInt16.toUInt32.toInt32 : Value) = v') (hl' : l.set i (a, true, .inr (.char, vs.set j v')) = l')
    (K : WP κ y (pc + 1) L S F l' k n) : WP κ y pc L (.int x :: .int z :: .ref a :: S) F l k n := fun T G => by
  obtain ⟨meth, c, X, hb, -⟩ := G.stand C M (d := 0) (w := 0) G.room
  subst hb hx
  have H := G.hp.1 _ (List.mem_of_getElem? hi)
  have hS := G.hp.2.2 _ (List.mem_of_getElem? hi) rfl
  obtain ⟨cl, A, ev, ov⟩ := H
  obtain ⟨q1, -⟩ := ix_in ev hj (List.getElem?_eq_getElem hv)
  obtain ⟨T', h', X', e', W, st⟩ := stC X C.exec (Z := kZ κ) G.warm rfl A (j := z) (x := x) q1 (g := mkF (mid κ y) pc L.toArray (.int x :: .int z :: .ref a :: S)) rfl rfl hd
  have B := G.warmed C X'
  subst e'
  rw [hj.2] at W
  obtain ⟨r1, r2⟩ := (G.hp.warm B).wr B.1 hi W (Holds.store ⟨cl, A, ev, ov⟩ W)
  have r1 : Hp κ T'.vm T'.heap l' := hl' ▸ r1
  exact G.go st (K _ (G.next X' (one_loc hS.1) G.cells G.slots rfl r2 r1))
theorem wp_bastore (C : Ok κ) (M : Meth κ y bytes mx rt) (hd : decode bytes pc = .ok (.bastore, 1)) {a : Addr} {vs : List Value} {i j : Nat} {z : Int32} {x : Int32} {v' : Value} (hi : l[i]? = some (a, true, .inr (.byte, vs))) (hj : Ix z j) (hv : j < vs.length) (hx : (.int x.toInt8.toInt32 : Value) = v') (hl' : l.set i (a, true, .inr (.byte, vs.set j v')) = l')
    (K : WP κ y (pc + 1) L S F l' k n) : WP κ y pc L (.int x :: .int z :: .ref a :: S) F l k n := fun T G => by
  obtain ⟨meth, c, X, hb, -⟩ := G.stand C M (d := 0) (w := 0) G.room
  subst hb hx
  have H := G.hp.1 _ (List.mem_of_getElem? hi)
  have hS := G.hp.2.2 _ (List.mem_of_getElem? hi) rfl
  obtain ⟨cl, A, ev, ov⟩ := H
  obtain ⟨q1, -⟩ := ix_in ev hj (List.getElem?_eq_getElem hv)
  obtain ⟨T', h', X', e', W, st⟩ := stB X C.exec (Z := kZ κ) G.warm rfl A (j := z) (x := x) q1 (g := mkF (mid κ y) pc L.toArray (.int x :: .int z :: .ref a :: S)) rfl rfl hd
  have B := G.warmed C X'
  subst e'
  rw [hj.2] at W
  obtain ⟨r1, r2⟩ := (G.hp.warm B).wr B.1 hi W (Holds.store ⟨cl, A, ev, ov⟩ W)
  have r1 : Hp κ T'.vm T'.heap l' := hl' ▸ r1
  exact G.go st (K _ (G.next X' (one_loc hS.1) G.cells G.slots rfl r2 r1))
theorem perm_erase {α : Type} : ∀ {l : List α} {i : Nat} {x : α}, l[i]? = some x → l.Perm (x :: l.eraseIdx i)
  | [], i, x, h => by simp at h
  | a :: r, 0, x, h => by
    simp at h
    subst h
    exact List.Perm.refl _
  | a :: r, i + 1, x, h => ((perm_erase (l := r) (i := i) (by simpa using h)).cons a).trans (List.Perm.swap x a _)
/-- chunks turned round, dropped, shut -/
theorem wp_weaken (h : ∀ vm h, Hp κ vm h l → Hp κ vm h l') (K : WP κ y pc L S F l' k n) : WP κ y pc L S F l k n := fun T G => K T ⟨G.1, G.2.1, G.2.2.1, G.2.2.2.1, G.2.2.2.2.1, h _ _ G.hp, G.2.2.2.2.2.2⟩
theorem wp_front (i : Nat) {x : Chunk} {r : List Chunk} (hi : l[i]? = some x) (hr : l.eraseIdx i = r) (K : WP κ y pc L S F (x :: r) k n) : WP κ y pc L S F l k n := wp_weaken (fun vm h H => H.perm (by subst hr; exact perm_erase hi)) K
theorem wp_drop {x : Chunk} (K : WP κ y pc L S F l k n) : WP κ y pc L S F (x :: l) k n := wp_weaken (fun vm h H => H.drop) K
theorem wp_freeze {a : Addr} {mu : Bool} {c : String × List (String × String × String × Value) ⊕ FieldType × List Value} (K : WP κ y pc L S F ((a, false, c) :: l) k n) : WP κ y pc L S F ((a, mu, c) :: l) k n := wp_weaken (fun vm h H => H.freeze) K
theorem wp_room {k' n' : Nat} (hk : k ≤ k') (hn : n ≤ n') (hk' : k' ≤ (kR κ).cells) (hn' : n' ≤ (kR κ).slots) (K : WP κ y pc L S F l k' n') : WP κ y pc L S F l k n := fun T G => K T ⟨G.1, G.2.1.mono hk hn, G.2.2.1, G.2.2.2.1, G.2.2.2.2.1, G.2.2.2.2.2.1, hk', hn', G.2.2.2.2.2.2.2.2⟩
/-- two cells of the list that may be written are apart -/
theorem wp_ne {i j : Nat} {x z : Chunk} (hi : l[i]? = some x) (hj : l[j]? = some z) (hne : i ≠ j) (hm : x.2.1 = true ∨ z.2.1 = true) (K : x.1 ≠ z.1 → WP κ y pc L S F l k n) : WP κ y pc L S F l k n := fun T G => K (G.hp.apart hi hj hne hm) T G
end R
end Jvm.WK
namespace Jvm.WK
open Sem ClassFile Op Lib Jvm.Stand Jvm.Free Jvm.LawKit Jvm.RoadKit
/-! ## 7. calls and returns -/
/-- a frame of yc waits at pcc, its call so many bytes long -/
def Caller (κ : Cx) (yc : MethodName) (pcc len : Nat) : Prop := ∃ (bc : ByteArray) (mxc : Nat) (rc : Option FieldType) (ic : Instr), Meth κ yc bc mxc rc ∧ decode bc pcc = .ok (ic, len)
/-- how arguments are laid into a frame -/
def lay : List Value → Nat → List Slot
  | [], n => List.replicate n .unset
  | .long v :: vs, n => .val (.long v) :: .second :: lay vs (n - 2)
  | .double v :: vs, n => .val (.double v) :: .second :: lay vs (n - 2)
  | v :: vs, n => .val v :: lay vs (n - 1)
theorem lay_eq : ∀ (vs : List Value) (n : Nat), lay vs n = Jvm.Sym.laidSlots vs ++ List.replicate (n - (Jvm.Sym.laidSlots vs).length) .unset
  | [], n => rfl
  | v :: vs, n => by
    have h1 := lay_eq vs (n - 1)
    have h2 := lay_eq vs (n - 2)
    cases v <;> simp only [lay, Jvm.Sym.laidSlots, Value.category, h1, h2, if_true, List.cons_append, List.length_cons] <;> simp [Nat.sub_sub, Nat.add_comm] <;> omega
theorem args_lay {vs : List Value} {n : Nat} {L : List Slot} (h : lay vs n = L) : argsToLocals vs.toArray n = L.toArray := by
  apply Array.toList_inj.mp
  rw [Jvm.Sym.argsToLocals_toList, ← h, lay_eq]
section R
variable {κ : Cx} {T : State} {y : MethodName} {pc pc' : Nat} {L L' : List Slot} {S S' : List Value} {F : List Frame} {l l' : List Chunk} {k n : Nat} {bytes : ByteArray} {mx : Nat} {rt : Option FieldType}
theorem Meth.caller (M : Meth κ y bytes mx rt) {i : Instr} {len : Nat} (hd : decode bytes pc = .ok (i, len)) : Caller κ y pc len := ⟨bytes, mx, rt, i, M, hd⟩
theorem Good.goU (G : Good κ T y pc L S F l k n) {U : State} (st : Steps (kp κ).tables (ke κ) (F ++ kb κ) (T.setTop (mkF (mid κ y) pc L.toArray S)) U) (D : Done κ U) : Done κ T := by
  obtain ⟨t, h1, h2⟩ := D
  have e : T.setTop (mkF (mid κ y) pc L.toArray S) = T := State.setTop_self (State.topJava?_of_frames G.1)
  rw [e] at st
  exact ⟨t, (steps_weaken st).trans h1, h2⟩
theorem Good.zcur (G : Good κ T y pc L S F l k n) : (kZ κ).cur < (kZ κ).threads.size := by
  have q := State.cur_lt_of_frames G.1
  rw [G.threads, G.curEq] at q
  simpa [State.setFrames] using q
theorem Good.room2 (G : Good κ T y pc L S F l k n) {mx' : Nat} (hR : Rm κ (fr κ y pc L S' :: F) 1 (mx' + 11)) : Rm κ F (1 + 1) (L.length + 11 + (cats S' + (mx' + 11))) := by
  refine ⟨by have := hR.1; simp only [List.length_cons] at this; omega, ?_⟩
  have := hR.2
  rw [wt_cons, fr_weight] at this
  omega
/-- into the callee -/
theorem Good.enter (C : Ok κ) (G : Good κ T y pc L S F l k n) (M : Meth κ y bytes mx rt) {i : Instr} {il : Nat} (hd : decode bytes pc = .ok (i, il)) {y' : MethodName} {bytes' : ByteArray} {mx' : Nat} {rt' : Option FieldType} (M' : Meth κ y' bytes' mx' rt') {args : List Value}
    (hL : argsToLocals args.toArray mx' = L'.toArray) (hL' : L'.length = mx') (hR : Rm κ (fr κ y pc L S' :: F) 1 (mx' + 11)) {a b : Nat} {meth : Method} {c : Code} {vm₁ : Vm}
    (X₁ : Stand (kp κ) (kl κ) (ke κ) ⟨1, a, b, cats S' + (mx' + 11)⟩ (base κ T y F) (mid κ y) (ka κ) (F ++ kb κ) meth c (T.setVm vm₁) [] 0 0) (hml : c.maxLocals = L.length)
    (K : WP κ y' 0 L' [] (fr κ y pc L S' :: F) l k n) : Done κ (doInvoke (ke κ) ((T.setVm vm₁).setTop (mkF (mid κ y) pc L.toArray S')) [] (mid κ y') args.toArray).1 := by
  obtain ⟨meth', c', h1, h2, h3, h4, h5, h6, h7, -⟩ := M'.get
  have hal : (kZ κ).vm.Alike vm₁ := G.alike.trans (X₁.warmed.alike)
  have hm' : vm₁.method? (mid κ y') = some meth' := by rw [hal.method?]; exact h2
  have hfrT : (T.setVm vm₁).frames = .java (mkF (mid κ y) pc L.toArray S) :: (F ++ kb κ) := G.1
  have hfull := X₁.notFull (g := mkF (mid κ y) pc L.toArray S') (by show L.toArray.size = c.maxLocals; rw [hml]; simp) (vars := c'.maxLocals) (Nat.le_refl 1) (by
    show 2 * 0 + cats S' + (c'.maxLocals + 11) ≤ cats S' + (mx' + 11)
    rw [h5]; omega)
  have eU : (doInvoke (ke κ) ((T.setVm vm₁).setTop (mkF (mid κ y) pc L.toArray S')) [] (mid κ y') args.toArray).1 = (T.setVm vm₁).setFrames (fr κ y' 0 L' [] :: fr κ y pc L S' :: (F ++ kb κ)) := by
    rw [(doInvoke_java (s := (T.setVm vm₁).setTop (mkF (mid κ y) pc L.toArray S')) (e := ke κ) (acts := []) (args := args.toArray) (meth := meth') (code := c') hm' h3 h7 hfull).1]
    have e2 : ((T.setVm vm₁).setTop (mkF (mid κ y) pc L.toArray S')).frames = .java (mkF (mid κ y) pc L.toArray S') :: (F ++ kb κ) := State.frames_setTop _ hfrT
    unfold State.pushFrame
    rw [e2, State.setTop_of_frames _ hfrT, State.setFrames_setFrames, h5, hL]
    rfl
  rw [eU]
  have hcurT : (T.setVm vm₁).cur < (T.setVm vm₁).threads.size := State.cur_lt_of_frames hfrT
  have A := G.warmed C X₁
  have eL := G.len M
  refine K _ ⟨State.frames_setFrames _ hcurT, ?_, G.since' X₁.warmed (Nat.le_refl _), fun h => G.strict' X₁.warmed h, A.1, G.hp.warm A, G.cells, G.slots, fun f hf => ?_, by rw [hL']; exact hR, ⟨bytes', rt', by rw [hL']; exact M'⟩⟩
  · exact (G.2.1.vm (pend_mono (s := base κ T y F) X₁.warmed.wide)).setFrames G.zcur
  · rcases List.mem_cons.mp hf with rfl | hf
    · exact ⟨y, bytes, rt, pc, L, S', i, il, rfl, by rw [eL]; exact M, hd⟩
    · exact G.2.2.2.2.2.2.2.2.1 f hf
theorem wp_invokestatic (C : Ok κ) (M : Meth κ y bytes mx rt) {ix : Nat} (hd : decode bytes pc = .ok (.invokestatic ix, 3)) {y' : MethodName} {bytes' : ByteArray} {mx' : Nat} {rt' : Option FieldType} (M' : Meth κ y' bytes' mx' rt') (w1 : Wd κ (.methodLink y.cls ix y')) (w2 : Wd κ (.static y')) (w3 : Wd κ (.initialized y'.cls))
    (hy : y'.cls ≠ "java/lang/invoke/MethodHandle" ∧ y'.cls ≠ "java/lang/invoke/VarHandle") (args : List Value) (hlen : ∀ sig, parseMethodDescriptor y'.desc = some sig → args.length = sig.parameters.length) (hS : S = args.reverse ++ S') (hL : lay args mx' = L') (hL' : L'.length = mx') (hR : Rm κ (fr κ y pc L S' :: F) 1 (mx' + 11))
    (K : WP κ y' 0 L' [] (fr κ y pc L S' :: F) l k n) : WP κ y pc L S F l k n := fun T G => by
  obtain ⟨meth, c, X, hb, hml, -⟩ := G.stand C M (d := 1) (w := cats S' + (mx' + 11)) (G.room2 hR)
  subst hb
  obtain ⟨meth', c', h1, h2, h3, h4, h5, h6, h7, -, h8⟩ := M'.get
  have hn : (base κ T y F).methodNamed? y' = some (mid κ y') := by
    have q : ((kZ κ).setVm T.vm).methodNamed? y' = some (mid κ y') := by rw [State.methodNamed?_setVm G.alike]; exact h1
    exact q
  have hm : (base κ T y F).vm.method? (mid κ y') = some meth' := by show T.vm.method? _ = _; rw [G.alike.method?]; exact h2
  obtain ⟨kP, hkP, -⟩ := className_of_methodNamed hn
  have hinitP : kP.init = .initialized := Cond.initialized_spec (args := ka κ) (findClass_of_methodNamed hn) hkP (mv (s := base κ T y F) G.warm w3)
  have hst : meth'.isStatic = true := Cond.static_spec hn hm (mv (s := base κ T y F) (args := ka κ) G.warm w2)
  obtain ⟨vm₁, X₁, hstep⟩ := X.invokestatic C.exec (G.own M) (mv (s := base κ T y F) G.warm w1) hn hm hst hkP hinitP hy (g := mkF (mid κ y) pc L.toArray S) rfl (argsL := args) (rest := S') (hlen _ h8) hS hd
  exact G.goU (hstep _ fun acts => by rw [doInvoke_state]; exact Steps.refl _) (G.enter C M hd M' (args_lay hL) hL' hR X₁ hml K)
theorem wp_init (C : Ok κ) (M : Meth κ y bytes mx rt) {ix : Nat} (hd : decode bytes pc = .ok (.invokespecial ix, 3)) {y' : MethodName} {bytes' : ByteArray} {mx' : Nat} (M' : Meth κ y' bytes' mx' none) (hi : y'.name = "<init>") (w1 : Wd κ (.methodLink y.cls ix y')) (w2 : Wd κ (.instanceMethod y'))
    (hy : y'.cls ≠ "java/lang/invoke/MethodHandle" ∧ y'.cls ≠ "java/lang/invoke/VarHandle") (a : Addr) (args : List Value) (hlen : ∀ sig, parseMethodDescriptor y'.desc = some sig → args.length = sig.parameters.length) (hS : S = args.reverse ++ .ref a :: S') (hL : lay (.ref a :: args) mx' = L') (hL' : L'.length = mx') (hR : Rm κ (fr κ y pc L S' :: F) 1 (mx' + 11))
    (K : WP κ y' 0 L' [] (fr κ y pc L S' :: F) l k n) : WP κ y pc L S F l k n := fun T G => by
  obtain ⟨meth, c, X, hb, hml, -⟩ := G.stand C M (d := 1) (w := cats S' + (mx' + 11)) (G.room2 hR)
  subst hb
  obtain ⟨meth', c', h1, h2, h3, h4, h5, h6, h7, -, h8⟩ := M'.get
  have hpl : (ke κ).platform.magicAccessors = ({} : Platform).magicAccessors := by rw [X.admits.platform]
  obtain ⟨mk, methM, cM, kP, vm₁, hnamed, hmethM, -, -, -, -, hkP, -, hW₁, hstep⟩ := Steps.initColdArgs (e := ke κ) X.here C.exec X.warmed hpl (G.own M) hi hy (mv (s := base κ T y F) (args := ka κ) G.warm w1) (mv (s := base κ T y F) G.warm w2) (mv (s := base κ T y F) G.warm M'.2) (f := mkF (mid κ y) pc L.toArray S) rfl hlen hS hd
  have hn : (base κ T y F).methodNamed? y' = some (mid κ y') := by
    have q : ((kZ κ).setVm T.vm).methodNamed? y' = some (mid κ y') := by rw [State.methodNamed?_setVm G.alike]; exact h1
    exact q
  cases hnamed.symm.trans hn
  have X₁ := X.noted hW₁
  exact G.goU (hstep _ fun acts => by rw [doInvoke_state]; exact Steps.refl _) (G.enter C M hd M' (args_lay hL) hL' hR X₁ hml K)
theorem wp_initObject (C : Ok κ) (M : Meth κ y bytes mx rt) {ix : Nat} (hd : decode bytes pc = .ok (.invokespecial ix, 3)) (w1 : Wd κ (.methodLink y.cls ix Lib.objectInit)) (w2 : Wd κ (.instanceMethod Lib.objectInit)) (w3 : Wd κ (.code Lib.objectInit ⟨#[0xb1]⟩ 1 none)) {a : Addr} (hR : Rm κ (fr κ y pc L S :: F) 1 12)
    (K : WP κ y (pc + 3) L S F l k n) : WP κ y pc L (.ref a :: S) F l k n := fun T G => by
  obtain ⟨meth, c, X, hb, hml, -⟩ := G.stand C M (d := 1) (w := cats S + (1 + 11)) (G.room2 hR)
  subst hb
  obtain ⟨T', X', e', st⟩ := initO X C.exec G.warm (G.own M) w1 w2 w3 rfl (g := mkF (mid κ y) pc L.toArray (.ref a :: S)) rfl (by show L.toArray.size = c.maxLocals; rw [hml]; simp) rfl hd (Nat.le_refl 1) (W := cats S) (by show 2 * 0 + cats S ≤ _; omega) (Nat.le_refl _)
  have A := G.warmed C X'
  exact G.go st (K _ (G.next X' nolocs G.cells G.slots rfl (e' ▸ A.1) (e' ▸ G.hp.warm A)))
/-- the class of a receiver -/
theorem Good.recv (G : Good κ T y pc L S F l k n) {b : Addr} {mu : Bool} {Cl : String} {fs : List (String × String × String × Value)} (hm : (b, mu, .inl (Cl, fs)) ∈ l) : ∃ cB kB, (base κ T y F).vm.findClass Cl = some cB ∧ (base κ T y F).vm.classes[cB]? = some kB ∧ IsOf cB T b :=
  isOf (s := base κ T y F) (T := T) G.warm rfl (G.hp.1 _ hm).1
/-- the class that a call names is no interface -/
def NfW (κ : Cx) (y0 : MethodName) : Prop := (∃ D, Wd κ (.selects D y0 y0)) ∨ (∃ D, Wd κ (.superclass y0.cls D)) ∨ Wd κ (.noSuperclass y0.cls) ∨ ∃ y2 : MethodName, y2.cls = y0.cls ∧ Wd κ (.instanceMethod y2) ∧ ∃ D, Wd κ (.selects D y2 y2)
theorem NfW.at {y0 : MethodName} {s : State} (h : NfW κ y0) (hZ : (kZ κ).Warmed39 s.vm) : NotFace s y0 := by
  rcases h with ⟨D, h⟩ | ⟨D, h⟩ | h | ⟨y2, hc2, hi, D, h⟩
  · exact notFace_of_selects (args := ka κ) (mv hZ h)
  · exact nf_super (args := ka κ) (mv hZ h)
  · exact nf_top (args := ka κ) (mv hZ h)
  · intro r0 hn
    obtain ⟨m2, -, hn2, -⟩ := Cond.instanceMethod_spec (mv (s := s) (args := ka κ) hZ hi)
    obtain ⟨kr, hkr, hni⟩ := notFace_of_selects (args := ka κ) (mv hZ h) m2 hn2
    have e1 := findClass_of_methodNamed hn
    have e2 := findClass_of_methodNamed hn2
    rw [hc2] at e2
    have ec : m2.cls = r0.cls := Option.some.inj (e2.symm.trans e1)
    rw [ec] at hkr
    exact ⟨kr, hkr, hni⟩
theorem wp_invokevirtual (C : Ok κ) (M : Meth κ y bytes mx rt) {ix : Nat} (hd : decode bytes pc = .ok (.invokevirtual ix, 3)) {y0 y' : MethodName} {bytes' : ByteArray} {mx' : Nat} {rt' : Option FieldType} (M' : Meth κ y' bytes' mx' rt') {Cl : String} (w1 : Wd κ (.methodLink y.cls ix y0)) (w2 : Wd κ (.declares y0)) (w3 : Wd κ (.selects Cl y0 y')) (w4 : Wd κ (.instanceMethod y')) (nf : NfW κ y0)
    (hy : y0.cls ≠ "java/lang/invoke/MethodHandle" ∧ y0.cls ≠ "java/lang/invoke/VarHandle") {b : Addr} {mu : Bool} {fs : List (String × String × String × Value)} (hm : (b, mu, .inl (Cl, fs)) ∈ l) (args : List Value) (hlen : ∀ sig, parseMethodDescriptor y0.desc = some sig → args.length = sig.parameters.length) (hS : S = args.reverse ++ .ref b :: S') (hL : lay (.ref b :: args) mx' = L') (hL' : L'.length = mx') (hR : Rm κ (fr κ y pc L S' :: F) 1 (mx' + 11))
    (K : WP κ y' 0 L' [] (fr κ y pc L S' :: F) l k n) : WP κ y pc L S F l k n := fun T G => by
  obtain ⟨meth, c, X, hb, hml, -⟩ := G.stand C M (d := 1) (w := cats S' + (mx' + 11)) (G.room2 hR)
  subst hb
  obtain ⟨meth', c', h1, h2, -⟩ := M'.get
  obtain ⟨cB, kB, hcB, -, cellB, hcellT, hclsB, hstatB⟩ := G.recv hm
  have v1 := mv (s := base κ T y F) (args := ka κ) G.warm w1
  have v2 := mv (s := base κ T y F) (args := ka κ) G.warm w2
  have v3 := mv (s := base κ T y F) (args := ka κ) G.warm w3
  have v4 := mv (s := base κ T y F) (args := ka κ) G.warm w4
  obtain ⟨r0, r, hn, hrm, hstR, hsigR⟩ := Cond.declares_spec v2
  obtain ⟨mk, methM, hnamed, hmethM, -, habM⟩ := Cond.instanceMethod_spec v4
  obtain ⟨c2, r2, m2, q1, q2, q3, q4, kP, hkP, hkPi⟩ := Cond.selects_spec v3
  cases hcB.symm.trans q1
  cases (State.methodFound?_of_named hn hy).symm.trans q2
  cases hnamed.symm.trans q3
  have hselP : selectMethod (ke κ).platform (base κ T y F).vm cellB.cls r0 = .method mk := by rw [Launch.admits_selectMethod X.admits, hclsB]; exact q4
  obtain ⟨kr, hkr, hni⟩ := nf.at (s := base κ T y F) G.warm r0 hn
  obtain ⟨vm₁, X₁, hstep⟩ := X.invokevirtual C.exec (G.own M) v1 hn hrm hstR hkr hni hy (a := b) (cell := cellB) hcellT (fun z h => by rw [h] at hstatB; cases hstatB) hselP hmethM habM hkP hkPi (g := mkF (mid κ y) pc L.toArray S) rfl (argsL := args) (rest := S') (hlen _ hsigR) hS hd
  have hn' : (base κ T y F).methodNamed? y' = some (mid κ y') := by
    have q : ((kZ κ).setVm T.vm).methodNamed? y' = some (mid κ y') := by rw [State.methodNamed?_setVm G.alike]; exact h1
    exact q
  cases hnamed.symm.trans hn'
  exact G.goU (hstep _ fun acts => by rw [doInvoke_state]; exact Steps.refl _) (G.enter C M hd M' (args_lay hL) hL' hR X₁ hml K)
/-- back to the caller -/
theorem Good.back (C : Ok κ) {yc : MethodName} {pcc len : Nat} {Lc : List Slot} {Sc : List Value} (G : Good κ T y pc L S (fr κ yc pcc Lc Sc :: F) l k n) (Cr : Caller κ yc pcc len) (v : Option Value) (K : WP κ yc (pcc + len) Lc (v.toList ++ Sc) F l k n) :
    ∃ fs, handOver T v ((fr κ yc pcc Lc Sc :: F) ++ kb κ) = some fs ∧ Done κ (T.setFrames fs) := by
  obtain ⟨bc, mxc, rc, ic, Mc, hdc⟩ := Cr
  obtain ⟨mc, cc, -, n2, n3, n4, n5, -⟩ := Mc.get
  have hm : T.vm.method? (mid κ yc) = some mc := by rw [G.alike.method?]; exact n2
  have hcode : T.code? (mid κ yc) = some cc := by rw [State.code?_eq, hm]; simp [n3]
  have hcur := State.cur_lt_of_frames G.1
  have hrm := G.2.2.2.2.2.2.2.2.2.1
  obtain ⟨yq, bq, rq, pq, Lq, Sq, iq, lq, eq, Mq, hdq⟩ := G.2.2.2.2.2.2.2.2.1 (fr κ yc pcc Lc Sc) (by simp)
  have eL : Lq = Lc := by
    have q := eq
    simp only [fr, Frame.java.injEq, mkF, JFrame.mk.injEq, Array.mk.injEq] at q
    have q2 := q.2.2.1
    first | exact q2.symm | (simp at q2; exact q2.symm)
  have eM : mid κ yq = mid κ yc := by
    have q := eq
    simp only [fr, Frame.java.injEq, mkF, JFrame.mk.injEq] at q
    exact q.1.symm
  have hLen : Lc.length = mxc := by
    obtain ⟨m2, c2, -, g2, g3, -, g5, -⟩ := Mq.get
    rw [eM] at g2
    cases g2.symm.trans n2
    cases g3.symm.trans n3
    rw [← eL, ← g5, n5]
  refine ⟨fr κ yc (pcc + len) Lc (v.toList ++ Sc) :: (F ++ kb κ), ?_, ?_⟩
  · show ((T.code? (mid κ yc)).bind fun c => (decode c.code pcc).toOption).map _ = _
    rw [hcode]
    simp [n4, hdc, Except.toOption]
    rfl
  · refine K _ ⟨State.frames_setFrames _ hcur, G.2.1.setFrames G.zcur, G.2.2.1, G.2.2.2.1, G.2.2.2.2.1, G.hp, G.cells, G.slots, fun f hf => G.2.2.2.2.2.2.2.2.1 f (List.mem_cons_of_mem _ hf), ?_, ⟨bc, rc, by rw [hLen]; exact Mc⟩⟩
    refine ⟨by have := hrm.1; simp only [List.length_cons] at this; omega, ?_⟩
    have := hrm.2
    rw [wt_cons, fr_weight] at this
    omega
theorem wp_ret (C : Ok κ) (M : Meth κ y bytes mx rt) {i : Instr} (hd : decode bytes pc = .ok (i, 1)) {t : FieldType} (hrt : rt = some t) {v : Value} (hn : narrow t v = v)
    (hi : (i = .ireturn ∧ (t = .int ∨ t = .boolean ∨ t = .byte ∨ t = .char ∨ t = .short) ∧ ∃ z, v = .int z) ∨ (i = .lreturn ∧ t = .long ∧ ∃ z, v = .long z) ∨ (i = .dreturn ∧ t = .double ∧ ∃ z, v = .double z) ∨ (i = .freturn ∧ t = .float ∧ ∃ z, v = .float z) ∨ (i = .areturn ∧ t.isReference = true ∧ v.isRef = true))
    {yc : MethodName} {pcc len : Nat} {Lc : List Slot} {Sc : List Value} (Cr : Caller κ yc pcc len) (K : WP κ yc (pcc + len) Lc (v :: Sc) F l k n) : WP κ y pc L (v :: S) (fr κ yc pcc Lc Sc :: F) l k n := fun T G => by
  obtain ⟨meth, c, X, hb, hml, hr, hlk, -⟩ := G.stand C M (d := 0) (w := 0) G.room
  subst hb
  obtain ⟨fs, hfs, D⟩ := G.back C Cr (some v) K
  exact G.goU (retOut X C.exec (hr.trans hrt) hn hi hd fun f acts h1 h2 h3 => ret_to G.1 (by rw [h1]; exact X.method') hlk h2 h3 hfs acts) D
theorem wp_iret (C : Ok κ) (M : Meth κ y bytes mx rt) (hd : decode bytes pc = .ok (.ireturn, 1)) {t : FieldType} (hrt : rt = some t) {z : Int32} (ht : t = .int ∨ t = .boolean ∨ t = .byte ∨ t = .char ∨ t = .short) (hn : narrow t (.int z) = .int z)
    {yc : MethodName} {pcc len : Nat} {Lc : List Slot} {Sc : List Value} (Cr : Caller κ yc pcc len) (K : WP κ yc (pcc + len) Lc (.int z :: Sc) F l k n) : WP κ y pc L (.int z :: S) (fr κ yc pcc Lc Sc :: F) l k n := wp_ret C M hd hrt hn (Or.inl ⟨rfl, ht, z, rfl⟩) Cr K
theorem wp_lret (C : Ok κ) (M : Meth κ y bytes mx rt) (hd : decode bytes pc = .ok (.lreturn, 1)) (hrt : rt = some .long) {z : Int64}
    {yc : MethodName} {pcc len : Nat} {Lc : List Slot} {Sc : List Value} (Cr : Caller κ yc pcc len) (K : WP κ yc (pcc + len) Lc (.long z :: Sc) F l k n) : WP κ y pc L (.long z :: S) (fr κ yc pcc Lc Sc :: F) l k n := wp_ret C M hd hrt rfl (Or.inr (Or.inl ⟨rfl, rfl, z, rfl⟩)) Cr K
theorem wp_aret (C : Ok κ) (M : Meth κ y bytes mx rt) (hd : decode bytes pc = .ok (.areturn, 1)) {t : FieldType} (hrt : rt = some t) (ht : t.isReference = true) {v : Value} (hv : v.isRef = true) 
    {yc : MethodName} {pcc len : Nat} {Lc : List Slot} {Sc : List Value} (Cr : Caller κ yc pcc len) (K : WP κ yc (pcc + len) Lc (v :: Sc) F l k n) : WP κ y pc L (v :: S) (fr κ yc pcc Lc Sc :: F) l k n :=
  wp_ret C M hd hrt (by cases t <;> cases v <;> first | rfl | (cases ht; done) | (cases hv; done)) (Or.inr (Or.inr (Or.inr (Or.inr ⟨rfl, ht, hv⟩)))) Cr K
theorem wp_vret (C : Ok κ) (M : Meth κ y bytes mx none) (hd : decode bytes pc = .ok (.return_, 1))
    {yc : MethodName} {pcc len : Nat} {Lc : List Slot} {Sc : List Value} (Cr : Caller κ yc pcc len) (K : WP κ yc (pcc + len) Lc Sc F l k n) : WP κ y pc L [] (fr κ yc pcc Lc Sc :: F) l k n := fun T G => by
  obtain ⟨meth, c, X, hb, hml, hr, hlk, -⟩ := G.stand C M (d := 0) (w := 0) G.room
  subst hb
  obtain ⟨fs, hfs, D⟩ := G.back C Cr none K
  refine G.goU (U := T.setFrames fs) ?_ D
  have hl : ∀ (f : JFrame) (acts : List Action), f.method = mid κ y → f.locked = none → f.entered = [] → (doReturn (ke κ) (T.setTop f) acts none).1 = T.setFrames fs := fun f acts h1 h2 h3 => ret_to G.1 (by rw [h1]; exact X.method') hlk h2 h3 hfs acts
  exact X.returnOut C.exec hr hd hl
/-- the law's own return -/
theorem wp_end (C : Ok κ) (M : Meth κ y bytes mx (some .boolean)) (hd : decode bytes pc = .ok (.ireturn, 1)) : WP κ y pc L (.int 1 :: S) [] l k n := fun T G => by
  obtain ⟨meth, c, X, hb, hml, hr, hlk, -⟩ := G.stand C M (d := 0) (w := 0) G.room
  subst hb
  obtain ⟨fs, hrr, hrun, hended, hW, hsame⟩ := X.leave (v := some (.int 1)) (fun h => by rw [hr] at h; cases h) hlk
  refine G.goU (retOut X C.exec hr (by decide) (Or.inl ⟨rfl, Or.inr (Or.inl rfl), 1, rfl⟩) hd hrr) ⟨_, Steps.refl _, hrun, hended, G.2.2.1, G.2.2.2.1, ?_⟩
  exact (G.sb.setFrames fs G.zcur).mono G.cells G.slots
end R
end Jvm.WK
namespace Jvm.WK
open Sem ClassFile Op Lib Jvm.Stand Jvm.Free Jvm.LawKit Jvm.RoadKit
/-! ## 8. Strings' constants, casts, arrays of references, copies -/
/-- a byte as an array of bytes holds it -/
def byv (u : UInt8) : Value := .int u.toInt8.toInt32
abbrev strO (a b : Addr) (z : Int32) : Chunk := (a, false, .inl ("java/lang/String", [("java/lang/String", "value", "[B", .ref b), ("java/lang/String", "coder", "B", .int z)]))
abbrev strB (b : Addr) (u : List UInt8) : Chunk := (b, false, .inr (.byte, u.map byv))
theorem byv_fits (u : UInt8) : fits .byte (byv u) = true := by
  have h := fits_nar_byte u.toInt8.toInt32
  simpa [byv] using h
/-- the words of a String that a constant makes -/
def StrW (κ : Cx) : Prop := ∀ a ∈ Bundle.stringAtoms, Wd κ a
theorem StrW.nodup {κ : Cx} (w : StrW κ) (v c : Value) : (([("java/lang/String", "value", "[B", v), ("java/lang/String", "coder", "B", c)] : List (String × String × String × Value)).map (fslot κ)).Nodup := by
  have h1 : Wd κ (.laysFinal "java/lang/String" "java/lang/String" "value" "[B") := w _ (by simp [Bundle.stringAtoms, Bundle.sN])
  have h2 : Wd κ (.laysFinal "java/lang/String" "java/lang/String" "coder" "B") := w _ (by simp [Bundle.stringAtoms, Bundle.sN])
  have q := slot_ne (Or.inr h1) (Or.inr h2) (by decide) (t := .array .byte) (t' := .byte) (by decide) (by decide)
  simpa [fslot] using q
section R
variable {κ : Cx} {T : State} {y : MethodName} {pc pc' : Nat} {L L' : List Slot} {S S' : List Value} {F : List Frame} {l l' : List Chunk} {k n : Nat} {bytes : ByteArray} {mx : Nat} {rt : Option FieldType}
/-- behind an 'ldc' that may have interned: what is used -/
theorem Good.litU (G : Good κ T y pc L S F l k n) {R' : Room} {meth : Method} {c : Code} {T' : State} {cells slots k' n' : Nat} (X' : Stand (kp κ) (kl κ) (ke κ) R' ((base κ T y F).setVm T'.vm) (mid κ y) (ka κ) (F ++ kb κ) meth c T' [] cells slots)
    (hk : ∀ k0, k0 + 2 * pend κ T.vm ≤ k → k0 + cells + 2 * pend κ T'.vm ≤ k') (hn : ∀ n0, n0 + 100 * pend κ T.vm ≤ n → n0 + slots + 100 * pend κ T'.vm ≤ n') : Used κ T' k' n' := by
  obtain ⟨k0, n0, g, g1, g2⟩ := G.2.1
  have q0 := X'.same.setVm (kZ κ).vm
  have q1 : (T.setVm (kZ κ).vm).sameButNew (T'.setVm (kZ κ).vm) [] cells slots := State.sameButNew.of_setFrames (F := .invoking (mid κ y) (ka κ) :: (F ++ kb κ)) q0
  exact ⟨_, _, g.trans q1, hk _ g1, hn _ g2⟩
/-- behind an 'ldc' that may have interned -/
theorem Good.lit (G : Good κ T y pc L S F l k n) (hst : kS κ = false) {R' : Room} {meth : Method} {c : Code} {T' : State} {cells slots k1 k' n' : Nat} (X' : Stand (kp κ) (kl κ) (ke κ) R' ((base κ T y F).setVm T'.vm) (mid κ y) (ka κ) (F ++ kb κ) meth c T' [] cells slots)
    (hS : (base κ T y F).Since T'.vm k1) (hk1 : k1 ≤ T'.heap.size) (hU : Used κ T' k' n') (hk : k' ≤ (kR κ).cells) (hn : n' ≤ (kR κ).slots) (hC : CHv (kZ κ) (kE κ) T'.vm T'.heap) (hH : Hp κ T'.vm T'.heap l') : Good κ (T'.setTop (mkF (mid κ y) pc' L.toArray S')) y pc' L S' F l' k' n' := by
  obtain ⟨g₀, hfr⟩ := X'.frames_eq
  have hsz : T.heap.size ≤ T'.heap.size := X'.same.2.1
  refine ⟨State.frames_setTop _ hfr, ?_, ?_, fun h => ?_, hC, hH, hk, hn, G.2.2.2.2.2.2.2.2.1, G.2.2.2.2.2.2.2.2.2.1, G.2.2.2.2.2.2.2.2.2.2⟩
  · rw [State.setTop_of_frames _ hfr]
    exact hU.setFrames G.zcur
  · show (kZ κ).Since T'.vm T'.heap.size
    refine G.2.2.1.trans (n₂ := T'.heap.size) ⟨State.Warmed39.of_rootvm (s := base κ T y F) rfl hS.1, fun j p hj hp => ?_⟩ hsz
    have q := hS.2 j p hj hp
    exact ⟨Nat.le_trans G.size q.1, Nat.lt_of_lt_of_le q.2 hk1⟩
  · rw [hst] at h; cases h
theorem arv_list {h : Heap} {a : Addr} {cA : ClassId} {ty : FieldType} {z : Int32} {vs : List Value} {d : Value} {Z : State} (A : Arv Z h a cA ty z vs d) (hl : z.toNatClampNeg = vs.length) : ∃ c : Cell, Arr Z h a c ty ∧ c.slots.toList = vs := by
  obtain ⟨c, A, -, h2, -, H, -⟩ := A
  refine ⟨c, A, List.ext_getElem? fun i => ?_⟩
  have e : c.slots.size = vs.length := h2.trans hl
  by_cases q : i < c.slots.size
  · have r := H i q
    rw [← Array.getElem?_toList] at r
    rw [r, List.getD_eq_getElem?_getD, List.getElem?_eq_getElem (by omega)]
    rfl
  · rw [List.getElem?_eq_none (by simpa using q), List.getElem?_eq_none (by omega)]
/-- a String constant whose text is known -/
theorem wp_ldcS (C : Ok κ) (hst : kS κ = false) (wS : StrW κ) (M : Meth κ y bytes mx rt) {ix : Nat} (hd : decode bytes pc = .ok (.ldc ix, 2)) {text : String} (w : Wd κ (.stringLink y.cls ix text)) (hmem : (y.cls, ix) ∈ kE κ) (u : List UInt8) (ht : (∀ c ∈ text.toList, c.toNat < 256) ∧ text.toList.map (fun c => Value.int (Jvm.Lit.byteI c.toNat.toUInt16)) = u.map byv) {m : Nat} (hm : 4 * text.toList.length ≤ m)
    (hb : m ≤ 536870912) (hk : k + 2 ≤ (kR κ).cells) (hn : n + (m + 4) ≤ (kR κ).slots) (K : ∀ a b, WP κ y (pc + 2) L (.ref a :: S) F (strO a b 0 :: strB b u :: l) (k + 2) (n + (m + 4))) : WP κ y pc L S F l k n := fun T G => by
  obtain ⟨meth, c, X, hbb, -⟩ := G.stand C M (d := 0) (w := 0) G.room
  subst hbb
  have hlen : (Int32.ofNat u.length).toNatClampNeg = (u.map byv).length ∧ ¬ Int32.ofNat u.length < 0 := by
    have e : u.length = text.toList.length := by
      have q := congrArg List.length ht.2
      simpa using q.symm
    have q := idx_in (i := u.length) (n := u.length + 1) (by omega) (by omega)
    have q2 : (Nat.toInt32 u.length).toInt = u.length := len_toInt (by omega)
    refine ⟨?_, fun r => q (Or.inl r)⟩
    show (Nat.toInt32 u.length).toInt.toNat = _
    rw [q2]; simp
  obtain ⟨a, T', h', k1, b, kk, X', e', E, hS, hk1, -, -, A1, A2, A3, A4, -, -, hC, -, hsafe, st⟩ := ldcCH (s := base κ T y F) (vm0 := T.vm) (EL := kE κ) X C.exec G.warm (G.own M) w wS rfl (State.WarmedH.since (State.WarmedH.refl (base κ T y F)) T.heap.size) (Nat.le_refl _) C.ew hmem G.ch ht hlen.2 hlen.1 (g := mkF (mid κ y) pc L.toArray S) rfl hd hm hb (by show 0 + 2 ≤ (kR κ).cells - k; omega) (by show 0 + (m + 4) ≤ (kR κ).slots - n; omega)
  subst e'
  obtain ⟨cb, Ab, eb⟩ := arv_list A4 hlen.1
  have H0 := G.hp.ext E hC
  have H1 : Hp κ T'.vm T'.heap (strB b u :: l) := H0.add ⟨cb, Ab, eb, (fun C h => by cases h), fun h => by cases h⟩ (fun z hz hm => by
    rcases hm with hm | hm
    · cases hm
    · exact Ne.symm (hsafe _ (H0.2.2 z hz hm).2).2) (fun q => by cases q)
  have H2 : Hp κ T'.vm T'.heap (strO a b 0 :: strB b u :: l) := H1.add ⟨A1, fun f hf => by
      simp only [List.mem_cons, List.not_mem_nil, or_false] at hf
      rcases hf with rfl | rfl
      · exact A3
      · exact A2, wS.nodup _ _⟩ (fun z hz hm => by
    rcases hm with hm | hm
    · cases hm
    · rcases List.mem_cons.mp hz with rfl | hz
      · cases hm
      · exact Ne.symm (hsafe _ (H0.2.2 z hz hm).2).1) (fun q => by cases q)
  simp only [Nat.zero_add] at X'
  exact G.go st (K a b _ (G.lit hst X' hS hk1 (G.litU X' (fun k0 h => by have := pend_mono (κ := κ) (s := base κ T y F) hS.1; have e : pend κ (base κ T y F).vm = pend κ T.vm := rfl; omega) (fun n0 h => by have := pend_mono (κ := κ) (s := base κ T y F) hS.1; have e : pend κ (base κ T y F).vm = pend κ T.vm := rfl; omega)) hk hn hC.1 H2))
/-- a String constant of which nothing need be known -/
theorem wp_ldcO (C : Ok κ) (hst : kS κ = false) (wS : StrW κ) (M : Meth κ y bytes mx rt) {ix : Nat} (hd : decode bytes pc = .ok (.ldc ix, 2)) {text : String} (w : Wd κ (.stringLink y.cls ix text)) {m : Nat} (hm : 4 * text.toList.length ≤ m)
    (hb : m ≤ 536870912) (hk : k + 2 ≤ (kR κ).cells) (hn : n + (m + 4) ≤ (kR κ).slots) (K : ∀ a, WP κ y (pc + 2) L (.ref a :: S) F l (k + 2) (n + (m + 4))) : WP κ y pc L S F l k n := fun T G => by
  obtain ⟨meth, c, X, hbb, -⟩ := G.stand C M (d := 0) (w := 0) G.room
  subst hbb
  obtain ⟨a, T', h', k1, X', e', E, hS, hk1, -, -, hC, -, st⟩ := ldcOH (s := base κ T y F) (vm0 := T.vm) (EL := kE κ) X C.exec G.warm (G.own M) w wS rfl (State.WarmedH.since (State.WarmedH.refl (base κ T y F)) T.heap.size) (Nat.le_refl _) C.ew G.ch (g := mkF (mid κ y) pc L.toArray S) rfl hd hm hb (by show 0 + 2 ≤ (kR κ).cells - k; omega) (by show 0 + (m + 4) ≤ (kR κ).slots - n; omega)
  subst e'
  simp only [Nat.zero_add] at X'
  exact G.go st (K a _ (G.lit hst X' hS hk1 (G.litU X' (fun k0 h => by have := pend_mono (κ := κ) (s := base κ T y F) hS.1; have e : pend κ (base κ T y F).vm = pend κ T.vm := rfl; omega) (fun n0 h => by have := pend_mono (κ := κ) (s := base κ T y F) hS.1; have e : pend κ (base κ T y F).vm = pend κ T.vm := rfl; omega)) hk hn hC.1 (G.hp.ext E hC)))
theorem Hp.ins {vm : Vm} {h : Heap} (H : Hp κ vm h l) {a : Addr} {mu : Bool} {Cl K : String} {fs : List (String × String × String × Value)} (hm : (a, mu, .inl (Cl, fs)) ∈ l) (wc : Cl = K ∨ Wd κ (.castable Cl K)) : Ins (kZ κ) h a K true := by
  have E := (H.1 _ hm).1
  rcases wc with rfl | wc
  · exact Ins.self E
  · exact Ins.of_exa E wc
theorem wp_checkcast (C : Ok κ) (M : Meth κ y bytes mx rt) {ix : Nat} (hd : decode bytes pc = .ok (.checkcast ix, 3)) {a : Addr} {mu : Bool} {Cl Kl : String} {fs : List (String × String × String × Value)} (w : Wd κ (.classLink y.cls ix Kl)) (hm : (a, mu, .inl (Cl, fs)) ∈ l) (wc : Cl = Kl ∨ Wd κ (.castable Cl Kl))
    (K : WP κ y (pc + 3) L (.ref a :: S) F l k n) : WP κ y pc L (.ref a :: S) F l k n := fun T G => by
  obtain ⟨meth, c, X, hb, -⟩ := G.stand C M (d := 0) (w := 0) G.room
  subst hb
  obtain ⟨T', X', e', st⟩ := castY X C.exec G.warm (G.own M) w rfl (G.hp.ins hm wc) (g := mkF (mid κ y) pc L.toArray (.ref a :: S)) rfl rfl hd
  have A := G.warmed C X'
  exact G.go st (K _ (G.next X' nolocs G.cells G.slots rfl (e' ▸ A.1) (e' ▸ G.hp.warm A)))
theorem wp_instanceof (C : Ok κ) (M : Meth κ y bytes mx rt) {ix : Nat} (hd : decode bytes pc = .ok (.instanceof ix, 3)) {a : Addr} {mu : Bool} {Cl Kl : String} {fs : List (String × String × String × Value)} (w : Wd κ (.classLink y.cls ix Kl)) (hm : (a, mu, .inl (Cl, fs)) ∈ l) (wc : Cl = Kl ∨ Wd κ (.castable Cl Kl))
    (K : WP κ y (pc + 3) L (.int 1 :: S) F l k n) : WP κ y pc L (.ref a :: S) F l k n := fun T G => by
  obtain ⟨meth, c, X, hb, -⟩ := G.stand C M (d := 0) (w := 0) G.room
  subst hb
  obtain ⟨T', X', e', st⟩ := instY X C.exec G.warm (G.own M) w rfl (G.hp.ins hm wc) (g := mkF (mid κ y) pc L.toArray (.ref a :: S)) rfl rfl hd
  have A := G.warmed C X'
  exact G.go st (K _ (G.next X' nolocs G.cells G.slots rfl (e' ▸ A.1) (e' ▸ G.hp.warm A)))
theorem wp_anewarray (C : Ok κ) (M : Meth κ y bytes mx rt) {ix : Nat} (hd : decode bytes pc = .ok (.anewarray ix, 3)) {Cl : String} (w1 : Wd κ (.classLink y.cls ix Cl)) (w2 : Wd κ (.arrayOver (.object Cl))) {z : Int32} {len : Nat} (hz : Ix z len) (hb : len * 8 ≤ 536870912) (hk : k + 1 ≤ (kR κ).cells) (hn : n + len ≤ (kR κ).slots) {vs : List Value} (hv : List.replicate len .null = vs)
    (K : ∀ a, WP κ y (pc + 3) L (.ref a :: S) F ((a, true, .inr (.object Cl, vs)) :: l) (k + 1) (n + len)) : WP κ y pc L (.int z :: S) F l k n := fun T G => by
  obtain ⟨meth, c, X, hbb, -⟩ := G.stand C M (d := 0) (w := 0) G.room
  subst hbb hv
  obtain ⟨T', h', cA, X', e', E, A, O, st⟩ := newR X C.exec G.warm (G.own M) w1 w2 rfl (g := mkF (mid κ y) pc L.toArray (.int z :: S)) rfl hd rfl hz.1 (cap := len) (Nat.le_of_eq hz.2) hb (by show 0 + 1 ≤ (kR κ).cells - k; omega) (by show 0 + len ≤ (kR κ).slots - n; omega)
  have B := G.warmed C X'
  have B2 : CHr (kZ κ) (kE κ) T.vm T.heap T'.vm h' := B.trans (CHr.ext E B.1)
  subst e'
  have hx : Holds κ T'.heap (T.heap.size, true, .inr (.object Cl, List.replicate len .null)) := ⟨_, A, by simp [newA, hz.2, defaultValue], (fun D h => by cases h; exact O), fun _ h => by cases h⟩
  have hS : Safe (kZ κ) (kE κ) T'.vm T'.heap T.heap.size := fun Bk => by
    have q := (B.1.step fun _ _ _ q => E.2 _ _ q).2 _ Bk
    obtain ⟨cell, hcell⟩ := q.there
    exact absurd (Array.getElem?_eq_some_iff.mp hcell).1 (Nat.lt_irrefl _)
  simp only [Nat.zero_add] at X'
  exact G.go st (K _ _ (G.next X' nolocs hk hn rfl B2.1 (Hp.new E B2 G.hp G.size hx hS)))
theorem wp_aastore (C : Ok κ) (M : Meth κ y bytes mx rt) (hd : decode bytes pc = .ok (.aastore, 1)) {a b : Addr} {Cl D : String} {mu : Bool} {fs : List (String × String × String × Value)} {vs : List Value} {i j : Nat} {z : Int32} (hi : l[i]? = some (a, true, .inr (.object Cl, vs))) (hj : Ix z j) (hv : j < vs.length) (hm : (b, mu, .inl (D, fs)) ∈ l) (wc : D = Cl ∨ Wd κ (.castable D Cl)) (hl' : l.set i (a, true, .inr (.object Cl, vs.set j (.ref b))) = l')
    (K : WP κ y (pc + 1) L S F l' k n) : WP κ y pc L (.ref b :: .int z :: .ref a :: S) F l k n := fun T G => by
  obtain ⟨meth, c, X, hb, -⟩ := G.stand C M (d := 0) (w := 0) G.room
  subst hb
  have H := G.hp.1 _ (List.mem_of_getElem? hi)
  have hS := G.hp.2.2 _ (List.mem_of_getElem? hi) rfl
  obtain ⟨cl, A, ev, ov⟩ := H
  obtain ⟨q1, -⟩ := ix_in ev hj (List.getElem?_eq_getElem hv)
  obtain ⟨T', h', X', e', W, st⟩ := stR X C.exec (Z := kZ κ) G.warm rfl A (j := z) (v := .ref b) q1 rfl (Sto.of A (ov.1 Cl rfl) (G.hp.ins hm wc)) (g := mkF (mid κ y) pc L.toArray (.ref b :: .int z :: .ref a :: S)) rfl rfl hd
  have B := G.warmed C X'
  subst e'
  rw [hj.2] at W
  obtain ⟨r1, r2⟩ := (G.hp.warm B).wr B.1 hi W (Holds.store ⟨cl, A, ev, ov⟩ W)
  have r1 : Hp κ T'.vm T'.heap l' := hl' ▸ r1
  exact G.go st (K _ (G.next X' (one_loc hS.1) G.cells G.slots rfl r2 r1))
end R
end Jvm.WK
namespace Jvm.WK
open Sem ClassFile Op Lib Jvm.Stand Jvm.Free Jvm.LawKit Jvm.RoadKit Jvm.Free.SB Jvm.Free.SBG
/-- a booked constant's String, as chunks -/
theorem sl_chunks {κ : Cx} {vm : Vm} {h : Heap} {q : SQ} {units : Array UInt16} (wS : StrW κ) (hal : (kZ κ).vm.Alike vm) (F : SlB (Wst (kZ κ) vm h) q units) (hlat : units.all (· < 256) = true) {u : List UInt8} (hu : units.toList.map (fun x => Value.int (Jvm.Lit.byteI x)) = u.map byv) :
    Holds κ h (strO q.sa q.sd 0) ∧ Holds κ h (strB q.sd u) := by
  obtain ⟨cS, ⟨⟨s1, s2, s3, ⟨cv, kv, iv, s4, s4'⟩, ⟨cc, kc, ic, s5, s5'⟩, s6, s7, s8, s9, s10, s11, s12, -⟩, hfS, hcS⟩, ⟨kS, k1, -, k3⟩, -, hbyt⟩ := F
  have fS : vm.findClass "java/lang/String" = some cS := hfS
  have kS1 : vm.classes[cS]? = some kS := k1
  obtain ⟨kv', z4⟩ := ff_back (U := Wst (kZ κ) vm h) hal s4
  obtain ⟨kc', z5⟩ := ff_back (U := Wst (kZ κ) vm h) hal s5
  have fZ : (kZ κ).vm.findClass "java/lang/String" = some q.sC.cls := by rw [← hal.findClass, hcS]; exact fS
  obtain ⟨kz, hkz, -⟩ := Vm.findClass_spec fZ
  obtain ⟨kz', hkz', ez⟩ := hal.2.2 _ _ hkz
  have eS : kz' = kS := Option.some.inj (hkz'.symm.trans (hcS ▸ kS1))
  obtain ⟨hst, k9, hk9, comp, hkind⟩ := s11
  have hk9' : vm.classes[q.SA.cls]? = some k9 := hk9
  have hsl : q.SA.slots.toList = u.map byv := by
    have e : q.SA.slots = units.map fun x => Value.int (Jvm.Lit.byteI x) := by rw [hbyt, SBG.stringBytes_lat hlat]; rfl
    rw [e, Array.toList_map]; exact hu
  refine ⟨⟨⟨q.sC, kz, s1, fZ, hkz, s3, fun ho => by rw [k3, ← eS, ez]⟩, fun f hf => ?_, wS.nodup _ _⟩, q.SA, ⟨s10, ?_, s12⟩, hsl, (fun C hC => by cases hC), fun h => by cases h⟩
  · simp only [List.mem_cons, List.not_mem_nil, or_false] at hf
    rcases hf with rfl | rfl
    · exact ⟨q.sC, cv, kv', iv, q.fSV, s1, z4, s6, s2, s3, by rw [← hal.assignable]; exact s4', s8⟩
    · exact ⟨q.sC, cc, kc', ic, q.fSC, s1, z5, s7, s2, s3, by rw [← hal.assignable]; exact s5', s9⟩
  · exact State.isArrayOf_alike (s := Wst (kZ κ) vm h) (T := kZ κ) (Vm.Alike.symm hal) ⟨hst, k9, hk9, comp, hkind⟩
end Jvm.WK
namespace Jvm.WK
open Sem ClassFile Op Lib Jvm.Stand Jvm.Free Jvm.LawKit Jvm.RoadKit Jvm.Free.SB Jvm.Free.SBG
theorem countP_lt {α : Type} {f g : α → Bool} {p : α} : ∀ {l : List α}, p ∈ l → (∀ x, f x = true → g x = true) → f p = false → g p = true → l.countP f + 1 ≤ l.countP g
  | [], h, _, _, _ => nomatch h
  | a :: r, h, hm, h1, h2 => by
    by_cases e : p = a
    · subst e
      have q : r.countP f ≤ r.countP g := List.countP_mono_left fun x _ => hm x
      rw [List.countP_cons_of_neg (by rw [h1]; decide), List.countP_cons_of_pos h2]; omega
    · have hr : p ∈ r := by
        rcases List.mem_cons.mp h with q | q
        · exact absurd q e
        · exact q
      have q := countP_lt hr hm h1 h2
      rw [List.countP_cons, List.countP_cons]
      have : (if f a = true then 1 else 0) ≤ (if g a = true then 1 else 0) := by
        by_cases fa : f a = true
        · rw [if_pos fa, if_pos (hm a fa)]; exact Nat.le_refl _
        · rw [if_neg fa]; exact Nat.zero_le _
      omega
section R
variable {κ : Cx} {T : State} {y : MethodName} {pc pc' : Nat} {L L' : List Slot} {S S' : List Value} {F : List Frame} {l l' : List Chunk} {k n : Nat} {bytes : ByteArray} {mx : Nat} {rt : Option FieldType}
theorem pend_lt {s : State} {vm' : Vm} (h : s.Warmed39 vm') {p : String × Nat} (hp : p ∈ kP κ) (h1 : resd s.vm p = false) (h2 : resd vm' p = true) : pend κ vm' + 1 ≤ pend κ s.vm := by
  unfold pend
  refine countP_lt hp (fun x q => ?_) (by rw [h2]; rfl) (by rw [h1]; rfl)
  simp only [Bool.not_eq_true'] at q ⊢
  cases r : resd s.vm x with
  | false => rfl
  | true => rw [resd_mono h r] at q; cases q
theorem Lit.resd {s : State} {own : String} {ix : Nat} {a : Addr} (h : Lit s own ix a) : resd s.vm (own, ix) = true := by
  have q : s.resolvedAt? own ix = some (.string a) := h
  unfold WK.resd
  simp only [State.resolvedAt?, Option.bind_eq_bind] at q
  cases hc : s.vm.findClass own with
  | none => simp [hc] at q
  | some c =>
    cases hk : s.vm.classes[c]? with
    | none => simp [hc, hk] at q
    | some kk =>
      simp only [hc, hk, Option.bind_some] at q ⊢
      cases hr : kk.resolved[ix]? with
      | none => simp [hr] at q
      | some o => cases o with
        | none => simp [hr] at q
        | some r => simp [hr] at q; subst q; rfl
end R
end Jvm.WK
namespace Jvm.WK
open Sem ClassFile Op Lib Jvm.Stand Jvm.Free Jvm.LawKit Jvm.RoadKit Jvm.Free.SB Jvm.Free.SBG
section R
variable {κ : Cx} {T : State} {y : MethodName} {pc pc' : Nat} {L L' : List Slot} {S S' : List Value} {F : List Frame} {l l' : List Chunk} {k n : Nat} {bytes : ByteArray} {mx : Nat} {rt : Option FieldType}
/-- the context with nothing prepaid -/
def bare (κ : Cx) : Cx := (kp κ, kl κ, ke κ, kZ κ, ka κ, kb κ, km κ, kE κ, kS κ, kR κ, kx κ, [])
/-- a String constant that has been paid for: it costs nothing now -/
theorem wp_ldcP (C : Ok κ) (hst : kS κ = false) (wS : StrW κ) (M : Meth κ y bytes mx rt) {ix : Nat} (hd : decode bytes pc = .ok (.ldc ix, 2)) {text : String} (w : Wd κ (.stringLink y.cls ix text)) (hmem : (y.cls, ix) ∈ kE κ) (hP : (y.cls, ix) ∈ kP κ) (u : List UInt8) (ht : (∀ c ∈ text.toList, c.toNat < 256) ∧ text.toList.map (fun c => Value.int (Jvm.Lit.byteI c.toNat.toUInt16)) = u.map byv) (hm : text.toList.length ≤ 24)
    (K : ∀ a b, WP κ y (pc + 2) L (.ref a :: S) F (strO a b 0 :: strB b u :: l) k n) : WP κ y pc L S F l k n := fun T G => by
  have hlen : (Int32.ofNat u.length).toNatClampNeg = (u.map byv).length ∧ ¬ Int32.ofNat u.length < 0 := by
    have e : u.length = text.toList.length := by
      have q := congrArg List.length ht.2
      simpa using q.symm
    have q := idx_in (i := u.length) (n := u.length + 1) (by omega) (by omega)
    have q2 : (Nat.toInt32 u.length).toInt = u.length := len_toInt (by omega)
    refine ⟨?_, fun r => q (Or.inl r)⟩
    show (Nat.toInt32 u.length).toInt.toNat = _
    rw [q2]; simp
  cases r : resd T.vm (y.cls, ix) with
  | true =>
    obtain ⟨meth, c, X, hbb, -⟩ := G.stand C M (d := 0) (w := 0) G.room
    subst hbb
    have hf : T.vm.findClass y.cls = some (mid κ y).cls := G.own M
    have w2 : (Cond.stringLink y.cls ix text).before (ka κ) (Wst (kZ κ) T.vm T.heap) = true := mvS (s := { kZ κ with heap := T.heap }) G.warm w
    obtain ⟨k0, cf, i, units, hkx, hcf, hp, hu, -, htext, -⟩ := Cond.stringLink_spec (s := Wst (kZ κ) T.vm T.heap) hf w2
    have hkT : T.vm.classes[(mid κ y).cls]? = some k0 := hkx
    obtain ⟨a, hres⟩ : ∃ a, k0.resolved[ix]? = some (some (.string a)) := by
      unfold WK.resd at r
      simp only [hf, hkT] at r
      split at r
      · rename_i a hr; exact ⟨a, hr⟩
      · cases r
    have hB : Booksv T.vm y.cls ix units a := ⟨_, k0, cf, i, hf, hkT, hcf, hp, hu, Or.inl hres⟩
    have hlat := Jvm.ClassFile.lat_of_text htext ht.1
    obtain ⟨q, hqa, SB⟩ := SlB.of (G.ch _ hmem units a hB)
    have hun : units.toList.map (fun x => Value.int (Jvm.Lit.byteI x)) = u.map byv := by
      rw [← ht.2, Jvm.ClassFile.units_of_text htext ht.1, List.map_map]; rfl
    obtain ⟨H1, H2⟩ := sl_chunks wS G.alike SB hlat hun
    have hne : ∀ x, Safe (kZ κ) (kE κ) T.vm T.heap x → x ≠ q.sa ∧ x ≠ q.sd := fun x S => ⟨fun e1 => S ⟨_, hmem, units, a, hB, q, hqa, SB, Or.inl e1⟩, fun e1 => S ⟨_, hmem, units, a, hB, q, hqa, SB, Or.inr e1⟩⟩
    have HB : Hp κ T.vm T.heap (strB q.sd u :: l) := G.hp.add H2 (fun z hz hm => by
      rcases hm with hm | hm
      · cases hm
      · exact Ne.symm (hne _ (G.hp.2.2 z hz hm).2).2) (fun q => by cases q)
    have HA : Hp κ T.vm T.heap (strO q.sa q.sd 0 :: strB q.sd u :: l) := HB.add H1 (fun z hz hm => by
      rcases hm with hm | hm
      · cases hm
      · rcases List.mem_cons.mp hz with rfl | hz
        · cases hm
        · exact Ne.symm (hne _ (G.hp.2.2 z hz hm).2).1) (fun q => by cases q)
    have hLit : Lit ((base κ T y F).setVm T.vm) y.cls ix q.sa := by
      show State.resolvedAt? _ _ _ = _
      rw [hqa]
      simp [State.resolvedAt?, hf, hkT, hres]
    have st := ldcAgain (s := base κ T y F) (vm0 := T.vm) X C.exec G.warm hf w hLit (g := mkF (mid κ y) pc L.toArray S) rfl hd
    exact G.go (T' := T) st (K q.sa q.sd _ (G.next X nolocs G.cells G.slots rfl G.ch HA))
  | false =>
    obtain ⟨k0, n0, g, g1, g2⟩ := G.2.1
    have hpd : 1 ≤ pend κ T.vm := by
      have q : 0 < pend κ T.vm := List.countP_pos_iff.mpr ⟨_, hP, by rw [r]; rfl⟩
      exact q
    have hc1 := G.cells
    have hc2 := G.slots
    have G0 : Good (bare κ) T y pc L S F l k0 n0 := ⟨G.1, ⟨k0, n0, g, Nat.le_refl _, Nat.le_refl _⟩, G.2.2.1, G.2.2.2.1, G.2.2.2.2.1, G.2.2.2.2.2.1, by show k0 ≤ (kR κ).cells; omega, by show n0 ≤ (kR κ).slots; omega, G.2.2.2.2.2.2.2.2⟩
    obtain ⟨meth, c, X, hbb, -⟩ := G0.stand (κ := bare κ) C M (d := 0) (w := 0) G.room
    subst hbb
    obtain ⟨a, T', h', k1, b, kk, X', e', E, hS, hk1, -, -, A1, A2, A3, A4, -, -, hC, hL, hsafe, st⟩ := ldcCH (s := base κ T y F) (vm0 := T.vm) (EL := kE κ) X C.exec G.warm (G.own M) w wS rfl (State.WarmedH.since (State.WarmedH.refl (base κ T y F)) T.heap.size) (Nat.le_refl _) C.ew hmem G.ch ht hlen.2 hlen.1 (g := mkF (mid κ y) pc L.toArray S) rfl hd (n := 96) (by omega) (by decide) (by show 0 + 2 ≤ (kR κ).cells - k0; omega) (by show 0 + (96 + 4) ≤ (kR κ).slots - n0; omega)
    subst e'
    obtain ⟨cb, Ab, eb⟩ := arv_list A4 hlen.1
    have H0 := G.hp.ext E hC
    have H1 : Hp κ T'.vm T'.heap (strB b u :: l) := H0.add ⟨cb, Ab, eb, (fun C h => by cases h), fun h => by cases h⟩ (fun z hz hm => by
      rcases hm with hm | hm
      · cases hm
      · exact Ne.symm (hsafe _ (H0.2.2 z hz hm).2).2) (fun q => by cases q)
    have H2 : Hp κ T'.vm T'.heap (strO a b 0 :: strB b u :: l) := H1.add ⟨A1, fun f hf => by
        simp only [List.mem_cons, List.not_mem_nil, or_false] at hf
        rcases hf with rfl | rfl
        · exact A3
        · exact A2, wS.nodup _ _⟩ (fun z hz hm => by
      rcases hm with hm | hm
      · cases hm
      · rcases List.mem_cons.mp hz with rfl | hz
        · cases hm
        · exact Ne.symm (hsafe _ (H0.2.2 z hz hm).2).1) (fun q => by cases q)
    simp only [Nat.zero_add] at X'
    have pl : pend κ T'.vm + 1 ≤ pend κ T.vm := pend_lt (s := base κ T y F) hS.1 hP r (Lit.resd hL)
    have q1 : (T.setVm (kZ κ).vm).sameButNew (T'.setVm (kZ κ).vm) [] 2 (96 + 4) := State.sameButNew.of_setFrames (F := .invoking (mid κ y) (ka κ) :: (F ++ kb κ)) (X'.same.setVm (kZ κ).vm)
    exact G.go st (K a b _ (G.lit hst X' hS hk1 ⟨_, _, g.trans q1, by omega, by omega⟩ hc1 hc2 hC.1 H2))
end R
end Jvm.WK
namespace Jvm.WK
open Sem ClassFile Op Lib Jvm.Stand Jvm.Free Jvm.LawKit Jvm.RoadKit
/-! ## 9. the law's start -/
/-- what a law's run leaves -/
def Left (strict : Bool) (R : Room) (U : State) (o : Outcome) (U' : State) : Prop :=
  o = .returned (some (.int 1)) ∧ U.Since U'.vm U'.heap.size ∧ (strict = true → U.WarmedH U'.vm) ∧ U.sameButNew { U' with vm := U.vm } [] R.cells R.slots
theorem start_wp {l : Launch} {x : MethodName} {ws : List Jvm.Cond} {R : Room} {bytes : ByteArray} {mx : Nat} {EL PL : List (String × Nat)} {strict : Bool} (hx : plainFor x = true) (P : Array Value → State → Prop)
    (hEW : ∀ a s, P a s → EW s a EL) (hCH : ∀ a s, P a s → CHv s EL s.vm s.heap)
    (H : ∀ κ : Cx, Ok κ → kR κ = R → kE κ = EL → kS κ = strict → kx κ = mx → kP κ = PL → (∀ d ∈ (Jvm.Cond.code x bytes mx (some .boolean) :: ws), Wd κ d) → P (ka κ) (kZ κ) → ∃ L : List Slot, lay (ka κ).toList mx = L ∧ L.length = mx ∧ WP κ x 0 L [] [] [] (2 * PL.length) (100 * PL.length)) (hPc : 2 * PL.length ≤ R.cells) (hPs : 100 * PL.length ≤ R.slots) :
    MetFree l x (head1 (Jvm.Cond.code x bytes mx (some .boolean) :: ws) R) P (fun _ _ _ _ _ => True) (fun _ U o U' => Left strict R U o U') := by
  refine MetFree.of_bodySF hx hisR ?_
  intro p e s m args below meth c s₁ Bd hml0 hP hK
  let κ : Cx := (p, l, e, s, args, below, m, EL, strict, R, mx, PL)
  have hw : ∀ d ∈ (Jvm.Cond.code x bytes mx (some .boolean) :: ws), Wd κ d := fun d hd => atoms_spec (ws := Jvm.Cond.code x bytes mx (some .boolean) :: ws) Bd.pre d hd
  have M : Meth κ x bytes mx (some .boolean) := ⟨hx, hw _ (List.mem_cons_self ..)⟩
  have hmid : mid κ x = m := by
    have q : s.methodNamed? x = some m := Bd.named
    show (s.methodNamed? x).getD ⟨0, 0⟩ = m
    rw [q]; rfl
  have hst : s.status = .running := by
    have q := Bd.here.running
    rw [Bd.state] at q; exact q
  have hcs : s.curStatus? = some .runnable := by
    have q := Bd.here.runnable
    rw [Bd.state, State.curStatus?_setFrames] at q; exact q
  have hal : s.alone = true := by
    have q := Bd.here.alone
    rw [Bd.state, State.alone_setFrames] at q; exact q
  have C : Ok κ := ⟨Bd.admits, Bd.cas, Bd.clock, Bd.exec, Bd.frames, Bd.room, Bd.hears, hst, hcs, hal, hEW _ _ hP, x, bytes, M, hmid⟩
  obtain ⟨L, hL, hLm, W⟩ := H κ C rfl rfl rfl rfl rfl hw hP
  have hcur := State.cur_lt_of_frames Bd.frames
  obtain ⟨t, ht, -⟩ := State.frames_cons Bd.frames
  have ef : entryFrame m args mx = mkF (mid κ x) 0 L.toArray [] := by
    rw [hmid]
    show ({ method := m, pc := 0, locals := argsToLocals args mx, stack := [], locked := none } : JFrame) = _
    have q : argsToLocals args mx = L.toArray := args_lay (vs := args.toList) hL
    rw [q]
  have hf1 : s₁.frames = .java (entryFrame m args mx) :: below := by rw [Bd.state]; exact State.frames_setFrames _ hcur
  have G : Good κ (s₁.setTop (entryFrame m args mx)) x 0 L [] [] [] (2 * PL.length) (100 * PL.length) := by
    rw [State.setTop_self (State.topJava?_of_frames hf1)]
    refine ⟨by rw [hf1, ef]; rfl, ?_, ?_, fun _ => ?_, ?_, ⟨fun x hx => (nomatch hx), List.Pairwise.nil, fun x hx => (nomatch hx)⟩, hPc, hPs, fun f hf => (nomatch hf), ⟨?_, ?_⟩, ⟨bytes, _, by rw [hLm]; exact M⟩⟩
    · have hp : pend κ s₁.vm ≤ PL.length := List.countP_le_length
      rw [Bd.state] at hp ⊢; exact ⟨0, 0, (State.sameButNew.refl s ht).setFrames _ hcur, by omega, by omega⟩
    · rw [Bd.state]; exact State.WarmedH.since (State.WarmedH.refl s) _
    · rw [Bd.state]; exact State.WarmedH.refl s
    · rw [Bd.state]; exact hCH _ _ hP
    · show 0 + 1 ≤ R.frames + 1; omega
    · show wt [] + (L.length + 11) ≤ R.locals + (mx + 11)
      rw [wt_nil, hLm]; omega
  obtain ⟨t', st, f1, f2, f3, f4, f5⟩ := W _ G
  exact ⟨t', _, st, f1, f2, rfl, f3, f4, f5⟩
end Jvm.WK
namespace Jvm.WK
open Sem ClassFile Op Lib Jvm.Stand Jvm.Free Jvm.LawKit Jvm.RoadKit
/-! ## 10. small things -/
abbrev i2c (x : Int32) : Int32 := x.toUInt32.toUInt16.toUInt32.toInt32
/-- a truth as Java holds it -/
def bi (c : Prop) [Decidable c] : Int32 := if c then 1 else 0
theorem bi_t {c : Prop} [Decidable c] (h : c) : bi c = 1 := if_pos h
theorem bi_f {c : Prop} [Decidable c] (h : ¬ c) : bi c = 0 := if_neg h
theorem bi_iff {c d : Prop} [Decidable c] [Decidable d] (h : c ↔ d) : bi c = bi d := by
  by_cases hc : c
  · rw [bi_t hc, bi_t (h.mp hc)]
  · rw [bi_f hc, bi_f fun q => hc (h.mpr q)]
theorem bi_cases (c : Prop) [Decidable c] : bi c = 0 ∨ bi c = 1 := by
  by_cases hc : c
  · exact Or.inr (bi_t hc)
  · exact Or.inl (bi_f hc)
theorem toInt_toInt32 {i : Nat} (h : i < 2 ^ 31) : (Nat.toInt32 i).toInt = i := len_toInt h
theorem Ix_nat {i : Nat} (h : i < 2 ^ 31) : Ix (Nat.toInt32 i) i := by
  have q := toInt_toInt32 h
  refine ⟨?_, ?_⟩
  · rw [Int32.lt_iff_toInt_lt, q]; simp only [Int32.reduceToInt]; omega
  · show (Nat.toInt32 i).toInt.toNat = i
    rw [q]; simp
section R
variable {κ : Cx} {y : MethodName} {pc pc' : Nat} {L L' : List Slot} {S S' : List Value} {F : List Frame} {l l' : List Chunk} {k n : Nat}
theorem Rm.law {R : Room} {mx d w : Nat} (hr : kR κ = R) (hx : kx κ = mx) (h1 : 1 + d ≤ R.frames + 1) (h2 : 11 + L.length + cats S + w ≤ R.locals + (mx + 11)) : Rm κ [fr κ y pc L S] d w := by
  refine ⟨by rw [hr]; exact h1, ?_⟩
  rw [wt_cons, fr_weight, wt_nil, hr, hx]; omega
theorem rc {R : Room} {a : Nat} (hr : kR κ = R) (h : a ≤ R.cells) : a ≤ (kR κ).cells := by rw [hr]; exact h
theorem rs {R : Room} {a : Nat} (hr : kR κ = R) (h : a ≤ R.slots) : a ≤ (kR κ).slots := by rw [hr]; exact h
theorem wp_top {v v' : Value} (h : v = v') (K : WP κ y pc L (v :: S) F l k n) : WP κ y pc L (v' :: S) F l k n := h ▸ K
end R
end Jvm.WK
namespace Jvm.WK
open Sem ClassFile Op Lib Jvm.Stand Jvm.Free Jvm.LawKit Jvm.RoadKit
/-! ## 11. numbers and Latin-1 signs -/
theorem toInt_ofNat32 {j : Nat} (h : j < 2 ^ 31) : (Int32.ofNat j).toInt = j := len_toInt h
theorem lt32 {a b : Nat} (ha : a < 2 ^ 31) (hb : b < 2 ^ 31) : Int32.ofNat a < Int32.ofNat b ↔ a < b := by
  rw [Int32.lt_iff_toInt_lt, toInt_ofNat32 ha, toInt_ofNat32 hb]; omega
theorem eq32 {a b : Nat} (ha : a < 2 ^ 31) (hb : b < 2 ^ 31) : Int32.ofNat a = Int32.ofNat b ↔ a = b := by
  constructor
  · intro h
    have q := congrArg Int32.toInt h
    rw [toInt_ofNat32 ha, toInt_ofNat32 hb] at q
    omega
  · intro h; rw [h]
theorem nn32 {a : Nat} (ha : a < 2 ^ 31) : ¬ Int32.ofNat a < 0 := fun h => by
  have q := (lt32 (b := 0) ha (by decide)).mp h
  omega
theorem add32n (a b : Nat) : Int32.ofNat a + Int32.ofNat b = Int32.ofNat (a + b) := (Int32.ofNat_add a b).symm
theorem succ32 (a : Nat) : Int32.ofNat a + 1 = Int32.ofNat (a + 1) := (Int32.ofNat_add a 1).symm
theorem sub32n {a b : Nat} (h : b ≤ a) : Int32.ofNat a - Int32.ofNat b = Int32.ofNat (a - b) := by
  have e : Int32.ofNat a = Int32.ofNat (a - b) + Int32.ofNat b := by rw [add32n]; congr 1; omega
  rw [e, Int32.add_sub_cancel]
theorem Ix32 {i : Nat} (h : i < 2 ^ 31) : Ix (Int32.ofNat i) i := Ix_nat h
/-- a sign as Java's char -/
def ch8 (u : UInt8) : Int32 := u.toUInt32.toInt32
def chv (u : UInt8) : Value := .int (ch8 u)
theorem ch8_all {P : UInt8 → Prop} (h : ∀ i : Fin 256, P (UInt8.ofNat i.val)) (u : UInt8) : P u := by
  have q := h ⟨u.toNat, u.toNat_lt⟩
  simpa using q
theorem ch8_le (u : UInt8) : ¬ (255 : Int32) < ch8 u := ch8_all (P := fun u => ¬ (255 : Int32) < ch8 u) (by decide +kernel) u
theorem ch8_byte (u : UInt8) : (ch8 u).toInt8.toInt32 = u.toInt8.toInt32 := ch8_all (P := fun u => (ch8 u).toInt8.toInt32 = u.toInt8.toInt32) (by decide +kernel) u
theorem ch8_byte2 (u : UInt8) : ((ch8 u).toInt8.toInt32).toInt8.toInt32 = u.toInt8.toInt32 := ch8_all (P := fun u => ((ch8 u).toInt8.toInt32).toInt8.toInt32 = u.toInt8.toInt32) (by decide +kernel) u
theorem ch8_mask (u : UInt8) : u.toInt8.toInt32 &&& 255 = ch8 u := ch8_all (P := fun u => u.toInt8.toInt32 &&& 255 = ch8 u) (by decide +kernel) u
theorem ch8_i2c (u : UInt8) : i2c (ch8 u) = ch8 u := ch8_all (P := fun u => i2c (ch8 u) = ch8 u) (by decide +kernel) u
theorem ch8_narrow (u : UInt8) : narrow .char (.int (ch8 u)) = .int (ch8 u) := ch8_all (P := fun u => narrow .char (.int (ch8 u)) = .int (ch8 u)) (by decide +kernel) u
theorem ch8_nat (u : UInt8) : ch8 u = Int32.ofNat u.toNat := ch8_all (P := fun u => ch8 u = Int32.ofNat u.toNat) (by decide +kernel) u
theorem ch8_inj {u v : UInt8} : ch8 u = ch8 v ↔ u = v := by
  rw [ch8_nat, ch8_nat, eq32 (by have := u.toNat_lt; omega) (by have := v.toNat_lt; omega)]
  exact UInt8.toNat_inj
theorem byv_inj {u v : UInt8} : u.toInt8.toInt32 = v.toInt8.toInt32 ↔ u = v := by
  constructor
  · intro h
    rw [← ch8_inj, ← ch8_mask, ← ch8_mask, h]
  · intro h; rw [h]
/-- the low byte of an int, as a sign -/
def lo8 (x : Int32) : UInt8 := x.toUInt32.toUInt8
theorem lo8_mask (x : Int32) : x &&& 255 = ch8 (lo8 x) := by
  apply Int32.toBitVec_inj.mp
  apply BitVec.eq_of_toNat_eq
  have h1 : (x &&& 255).toBitVec.toNat = x.toBitVec.toNat &&& 255 := by
    rw [Int32.toBitVec_and, BitVec.toNat_and]; rfl
  have h2 : (ch8 (lo8 x)).toBitVec.toNat = x.toBitVec.toNat % 256 := by
    show (lo8 x).toUInt32.toBitVec.toNat = _
    simp [lo8]
  rw [h1, h2]
  exact Nat.and_two_pow_sub_one_eq_mod _ 8
end Jvm.WK
namespace Jvm.WK
open Sem ClassFile Op Lib Jvm.Stand Jvm.Free Jvm.LawKit Jvm.RoadKit
/-! ## 12. Strings: what is known of the JDK's statics; lists half filled -/
def StrS (κ : Cx) : Prop := (∃ cs : Int32, ¬ cs = 0 ∧ Sta (kZ κ) (kZ κ).heap "java/lang/String" "COMPACT_STRINGS" "Z" (.int cs)) ∧
  ∃ v : Value, v.isRef = true ∧ Sta (kZ κ) (kZ κ).heap "jdk/internal/util/Preconditions" "SIOOBE_FORMATTER" "Ljava/util/function/BiFunction;" v
theorem shr0 (x : Int32) : x >>> ((0 : Int32) &&& 31) = x := by
  apply Int32.toBitVec_inj.mp
  simp
/-- an array of n places, the first i filled -/
def part (f : UInt8 → Value) (d : Value) (us : List UInt8) (i : Nat) : List Value := (us.take i).map f ++ List.replicate (us.length - i) d
theorem part_0 (f : UInt8 → Value) (d : Value) (us : List UInt8) : part f d us 0 = List.replicate us.length d := by simp [part]
theorem part_n (f : UInt8 → Value) (d : Value) (us : List UInt8) : part f d us us.length = us.map f := by simp [part]
theorem part_len (f : UInt8 → Value) (d : Value) (us : List UInt8) {i : Nat} (h : i ≤ us.length) : (part f d us i).length = us.length := by simp [part]; omega
theorem part_set (f : UInt8 → Value) (d : Value) (us : List UInt8) {i : Nat} (h : i < us.length) : (part f d us i).set i (f (us.getD i 0)) = part f d us (i + 1) := by
  have e : us.length - i = (us.length - (i + 1)) + 1 := by omega
  unfold part
  rw [e, List.replicate_succ, List.set_append_right _ _ (by simp; omega)]
  have e2 : i - ((us.take i).map f).length = 0 := by simp; omega
  rw [e2, List.set_cons_zero, List.take_succ_eq_append_getElem h, List.map_append, List.append_assoc]
  simp [h]
theorem getD_map {f : UInt8 → Value} {us : List UInt8} {i : Nat} (h : i < us.length) : (us.map f)[i]? = some (f (us.getD i 0)) := by simp [h]
/-- what is known of a String: its object and its bytes stand in the list -/
def Str (l : List Chunk) (a : Addr) (us : List UInt8) : Prop := ∃ b, strO a b 0 ∈ l ∧ strB b us ∈ l
theorem Str.mono {l l' : List Chunk} {a : Addr} {us : List UInt8} (h : Str l a us) (hl : ∀ x ∈ l, x ∈ l') : Str l' a us := by obtain ⟨b, h1, h2⟩ := h; exact ⟨b, hl _ h1, hl _ h2⟩
theorem Str.cons {l : List Chunk} {x : Chunk} {a : Addr} {us : List UInt8} (h : Str l a us) : Str (x :: l) a us := h.mono fun _ q => List.mem_cons_of_mem _ q
end Jvm.WK
namespace Jvm.WK
open Sem ClassFile Op Lib Jvm.Stand Jvm.Free Jvm.LawKit Jvm.RoadKit
/-! ## 13. what stood before the law -/
section R
variable {κ : Cx} {y : MethodName} {pc pc' : Nat} {L L' : List Slot} {S S' : List Value} {F : List Frame} {l l' : List Chunk} {k n : Nat}
/-- an object that stood at the start: it is still as it was -/
theorem wp_old {a : Addr} {c : String × List (String × String × String × Value) ⊕ FieldType × List Value} (hx : Holds κ (kZ κ).heap (a, false, c)) (K : WP κ y pc L S F ((a, false, c) :: l) k n) : WP κ y pc L S F l k n := fun T G =>
  K T ⟨G.1, G.2.1, G.2.2.1, G.2.2.2.1, G.2.2.2.2.1, G.hp.add (hx.ext G.old) (fun z hz hm => by
    rcases hm with hm | hm
    · cases hm
    · exact Nat.ne_of_lt (Nat.lt_of_lt_of_le hx.lt (G.hp.2.2 z hz hm).1)) (fun q => by cases q), G.2.2.2.2.2.2⟩
/-- a cell that may be written was made by the law: it is none that stood at the start -/
theorem wp_neold {i : Nat} {x : Chunk} (hi : l[i]? = some x) (hm : x.2.1 = true) (K : (∀ a, a < (kZ κ).heap.size → x.1 ≠ a) → WP κ y pc L S F l k n) : WP κ y pc L S F l k n := fun T G =>
  K (fun a ha => Nat.ne_of_gt (Nat.lt_of_lt_of_le ha (G.hp.2.2 x (List.mem_of_getElem? hi) hm).1)) T G
end R
theorem and3 (f : Int32) : f &&& 3 = 0 ∨ f &&& 3 = 1 ∨ f &&& 3 = 2 ∨ f &&& 3 = 3 := by
  have h : (f &&& 3).toBitVec.toNat = f.toBitVec.toNat % 4 := by
    rw [Int32.toBitVec_and, BitVec.toNat_and]
    exact Nat.and_two_pow_sub_one_eq_mod _ 2
  have e : ∀ j : Nat, j < 4 → (f &&& 3).toBitVec.toNat = j → f &&& 3 = Int32.ofNat j := fun j hj q => by
    apply Int32.toBitVec_inj.mp
    apply BitVec.eq_of_toNat_eq
    rw [q]
    have : (Int32.ofNat j).toBitVec.toNat = j % 2 ^ 32 := by
      show (BitVec.ofInt 32 (j : Int)).toNat = _
      simp
    rw [this]; omega
  have q : f.toBitVec.toNat % 4 < 4 := Nat.mod_lt _ (by decide)
  generalize f.toBitVec.toNat % 4 = j at h q
  have := e j q h
  match j, q with
  | 0, _ => exact Or.inl this
  | 1, _ => exact Or.inr (Or.inl this)
  | 2, _ => exact Or.inr (Or.inr (Or.inl this))
  | 3, _ => exact Or.inr (Or.inr (Or.inr this))
/-! two lists of bytes, compared from a place on -/
theorem drop_getD {us : List UInt8} {i : Nat} (h : i < us.length) : us.drop i = us.getD i 0 :: us.drop (i + 1) := by
  rw [List.drop_eq_getElem_cons h]; simp [h]
theorem drop_eq_iff {us vs : List UInt8} {i : Nat} (h : i < us.length) (h' : i < vs.length) : us.drop i = vs.drop i ↔ us.getD i 0 = vs.getD i 0 ∧ us.drop (i + 1) = vs.drop (i + 1) := by
  rw [drop_getD h, drop_getD h', List.cons.injEq]
end Jvm.WK
namespace Jvm.WK
open Sem ClassFile Op Lib Jvm.Stand Jvm.Free Jvm.LawKit Jvm.RoadKit
/-! ## 14. System.arraycopy -/
section R
variable {κ : Cx} {T : State} {y : MethodName} {pc pc' : Nat} {L L' : List Slot} {S S' : List Value} {F : List Frame} {l l' : List Chunk} {k n : Nat} {bytes : ByteArray} {mx : Nat} {rt : Option FieldType} {vm vm1 : Vm} {h h' : Heap} {a : Addr}
theorem Holds.keep (W : Keep h h' [a]) : ∀ {x : Chunk}, Holds κ h x → x.1 ≠ a → Holds κ h' x
  | (b, _, .inl (C, fs)), H, hne => ⟨H.1.keep W, fun f hf => (H.2.1 f hf).keep W (fun q => hne (List.mem_singleton.mp q)), H.2.2⟩
  | (b, _, .inr (ty, vs)), ⟨c, A, e, o, q⟩, hne => ⟨c, ⟨W.2.1 b c A.1 (fun q => hne (List.mem_singleton.mp q)), A.2⟩, e, o, fun a b => (q a b).keep W⟩
theorem Hp.kept (H : Hp κ vm h l) (hC : CHv (kZ κ) (kE κ) vm h) {i : Nat} {c c' : String × List (String × String × String × Value) ⊕ FieldType × List Value} (hi : l[i]? = some (a, true, c)) (W : Keep h h' [a]) (hnew : Holds κ h' (a, true, c')) :
    Hp κ vm h' (l.set i (a, true, c')) ∧ CHv (kZ κ) (kE κ) vm h' := by
  have hS := (H.2.2 _ (List.mem_of_getElem? hi) rfl)
  have hW := hC.keepStep W (fun x hx => by cases List.mem_singleton.mp hx; exact hS.2)
  refine ⟨⟨fun z hz => ?_, ?_, fun z hz hm => ?_⟩, hW.1⟩
  · obtain ⟨j, hj⟩ := List.mem_iff_getElem?.mp hz
    by_cases e : i = j
    · subst e
      have hlt := (List.getElem?_eq_some_iff.mp hi).1
      rw [List.getElem?_set_self hlt] at hj
      cases hj; exact hnew
    · rw [getElem?_set_ne' e] at hj
      exact (H.1 z (List.mem_of_getElem? hj)).keep W (Ne.symm (H.apart hi hj e (Or.inl rfl)))
  · have e : (l.set i (a, true, c')).map key = l.map key := by
      apply List.ext_getElem?
      intro j
      simp only [List.getElem?_map]
      by_cases e : i = j
      · subst e
        rw [List.getElem?_set_self (List.getElem?_eq_some_iff.mp hi).1, hi]; rfl
      · rw [getElem?_set_ne' e]
    rw [e]; exact H.2.1
  · obtain ⟨j, hj⟩ := List.mem_iff_getElem?.mp hz
    by_cases e : i = j
    · subst e
      rw [List.getElem?_set_self (List.getElem?_eq_some_iff.mp hi).1] at hj
      cases hj
      exact ⟨hS.1, fun B => hS.2 (hW.2 _ B)⟩
    · rw [getElem?_set_ne' e] at hj
      have q := H.2.2 z (List.mem_of_getElem? hj) hm
      exact ⟨q.1, fun B => q.2 (hW.2 _ B)⟩
theorem clamp32 {i : Nat} (h : i < 2 ^ 31) : (Int32.ofNat i).toNatClampNeg = i := (Ix32 h).2
theorem arv_of {c : Cell} {ty : FieldType} {vs : List Value} {d : Value} (A : Arr (kZ κ) h a c ty) (ev : c.slots.toList = vs) (hl : vs.length < 2 ^ 31) (hf : ∀ v ∈ vs, fits ty v = true) : Arv (kZ κ) h a c.cls ty (Int32.ofNat vs.length) vs d := by
  have e : c.slots.size = vs.length := by rw [← ev]; simp
  refine ⟨c, A, rfl, by rw [clamp32 hl, e], nn32 hl, fun i hi => ?_, fun i hi => ?_⟩
  · rw [← Array.getElem?_toList, ev, List.getElem?_eq_getElem (by omega), List.getD_eq_getElem?_getD, List.getElem?_eq_getElem (by omega)]; rfl
  · rw [List.getD_eq_getElem?_getD, List.getElem?_eq_getElem (by omega)]; exact hf _ (List.getElem_mem ..)
theorem range_get {vs : List Value} {d : Value} {p m : Nat} (h : p + m ≤ vs.length) : ((List.range m).map fun i => vs.getD (p + i) d) = (vs.drop p).take m := by
  apply List.ext_getElem?
  intro i
  by_cases hi : i < m
  · rw [List.getElem?_map, List.getElem?_range hi, List.getElem?_take, if_pos hi, List.getElem?_drop, Option.map_some, List.getD_eq_getElem?_getD, List.getElem?_eq_getElem (by omega)]; rfl
  · rw [List.getElem?_eq_none (by simp; omega), List.getElem?_eq_none (by simp; omega)]
/-- a copy of plain components -/
theorem wp_copy (C : Ok κ) (M : Meth κ y bytes mx rt) {ix : Nat} (hd : decode bytes pc = .ok (.invokestatic ix, 3)) (w1 : Wd κ (.methodLink y.cls ix acN)) (w2 : Wd κ (.native acN)) (w3 : Wd κ (.static acN)) (w4 : Wd κ (.initialized "java/lang/System")) {b : Addr} {mu : Bool} {ty : FieldType} {vs ds : List Value} {i p q m : Nat}
    (hty : refKind ty = false) (hm : (a, mu, .inr (ty, vs)) ∈ l) (hi : l[i]? = some (b, true, .inr (ty, ds))) (hv : vs.length < 2 ^ 31) (hdl : ds.length < 2 ^ 31) (fv : ∀ v ∈ vs, fits ty v = true) (fd : ∀ v ∈ ds, fits ty v = true) (h1 : p + m ≤ vs.length) (h2 : q + m ≤ ds.length)
    (hR : Rm κ (fr κ y pc L S :: F) 1 40) (hl' : l.set i (b, true, .inr (ty, ds.take q ++ (vs.drop p).take m ++ ds.drop (q + m))) = l')
    (K : WP κ y (pc + 3) L S F l' k n) : WP κ y pc L (.int (Int32.ofNat m) :: .int (Int32.ofNat q) :: .ref b :: .int (Int32.ofNat p) :: .ref a :: S) F l k n := fun T G => by
  obtain ⟨meth, c, X, hb, hml, -⟩ := G.stand C M (d := 1) (w := cats S + 40) (G.room2 hR)
  subst hb
  obtain ⟨cs, As, es, -⟩ := G.hp.1 _ hm
  obtain ⟨cd, Ad, ed, od⟩ := G.hp.1 _ (List.mem_of_getElem? hi)
  have hS := G.hp.2.2 _ (List.mem_of_getElem? hi) rfl
  have cm : (Int32.ofNat m).toNatClampNeg = m := clamp32 (by omega)
  have cp : (Int32.ofNat p).toNatClampNeg = p := clamp32 (by omega)
  have cq : (Int32.ofNat q).toNatClampNeg = q := clamp32 (by omega)
  have nf : nativeFrameWords "java/lang/System" "arraycopy" 5 + 11 ≤ 40 := by decide
  obtain ⟨T', h', Lo, X', e', N, Kp, A', st⟩ := cpA X C.exec G.warm (G.own M) w1 w2 w3 w4 rfl (sp := Int32.ofNat p) (dp := Int32.ofNat q) (nn := Int32.ofNat m) (arv_of (d := .null) As es hv fv) (arv_of (d := .null) Ad ed hdl fd) (Or.inl ⟨rfl, hty⟩) (nn32 (by omega)) (nn32 (by omega)) (nn32 (by omega))
    (by rw [cp, cm, clamp32 hv]; exact h1) (by rw [cq, cm, clamp32 hdl]; exact h2) rfl (by rw [cq, cm]; exact h2) (n0 := (kZ κ).heap.size) (fun x hx => nomatch hx) hS.1
    (g := mkF (mid κ y) pc L.toArray (.int (Int32.ofNat m) :: .int (Int32.ofNat q) :: .ref b :: .int (Int32.ofNat p) :: .ref a :: S)) rfl (by show L.toArray.size = c.maxLocals; rw [hml]; simp) rfl hd (Nat.le_refl 1) (W := cats S) (by show 2 * 0 + cats S ≤ _; omega) (by show _ ≤ cats S + 40; omega)
  have B := G.warmed C X'
  subst e'
  rw [cm, cq, cp, range_get h1] at A'
  have ll : (Int32.ofNat ds.length).toNatClampNeg = (ds.take q ++ (vs.drop p).take m ++ ds.drop (q + m)).length := by rw [clamp32 hdl]; simp; omega
  obtain ⟨c2, A2, e2⟩ := arv_list A' ll
  have hnew : Holds κ T'.heap (b, true, .inr (ty, ds.take q ++ (vs.drop p).take m ++ ds.drop (q + m))) := ⟨c2, A2, e2, (fun D hD => by subst hD; cases hty), fun a b => (od.2 a b).keep Kp⟩
  obtain ⟨r1, r2⟩ := (G.hp.warm B).kept B.1 hi Kp hnew
  have r1 : Hp κ T'.vm T'.heap l' := hl' ▸ r1
  exact G.go st (K _ (G.next X' N G.cells G.slots rfl r2 r1))
theorem byv_all (us : List UInt8) : ∀ v ∈ us.map byv, fits .byte v = true := fun v hv => by
  obtain ⟨u, -, rfl⟩ := List.mem_map.mp hv
  exact byv_fits u
end R
end Jvm.WK
namespace Jvm.WK
open Sem ClassFile Op Lib Jvm.Stand Jvm.Free Jvm.LawKit Jvm.RoadKit
section R
variable {κ : Cx} {y : MethodName} {pc pc' : Nat} {L L' : List Slot} {S S' : List Value} {F : List Frame} {l l' : List Chunk} {k n : Nat}
/-- what is frozen may be told twice -/
theorem wp_dup {x : Chunk} (hx : x ∈ l) (hm : x.2.1 = false) (K : WP κ y pc L S F (x :: l) k n) : WP κ y pc L S F l k n := wp_weaken (fun vm h H => H.add (H.1 x hx) (fun z hz q => by
    rcases q with q | q
    · rw [hm] at q; cases q
    · obtain ⟨i, hi⟩ := List.mem_iff_getElem?.mp hx
      obtain ⟨j, hj⟩ := List.mem_iff_getElem?.mp hz
      refine H.apart hi hj (fun e => ?_) (Or.inr q)
      subst e
      cases hi.symm.trans hj
      rw [hm] at q; cases q) (fun q => by rw [hm] at q; cases q)) K
end R
/-- the first place from i on (d places looked at) at which c stands, or -1 -/
def ixc (us : List UInt8) (c : UInt8) : Nat → Nat → Int32
  | 0, _ => -1
  | d + 1, i => if us.getD i 0 = c then Int32.ofNat i else ixc us c d (i + 1)
theorem ixc_spec (us : List UInt8) (c : UInt8) : ∀ (d i : Nat), (ixc us c d i = -1 ∧ ∀ j, i ≤ j → j < i + d → us.getD j 0 ≠ c) ∨ ∃ j, i ≤ j ∧ j < i + d ∧ us.getD j 0 = c ∧ (∀ t, i ≤ t → t < j → us.getD t 0 ≠ c) ∧ ixc us c d i = Int32.ofNat j
  | 0, i => Or.inl ⟨rfl, fun j h1 h2 => absurd h2 (by omega)⟩
  | d + 1, i => by
    unfold ixc
    by_cases h : us.getD i 0 = c
    · rw [if_pos h]; exact Or.inr ⟨i, Nat.le_refl _, by omega, h, fun t h1 h2 => absurd h2 (by omega), rfl⟩
    · rw [if_neg h]
      rcases ixc_spec us c d (i + 1) with ⟨e, H⟩ | ⟨j, h1, h2, h3, h4, e⟩
      · exact Or.inl ⟨e, fun j h1 h2 => by
          by_cases q : j = i
          · rw [q]; exact h
          · exact H j (by omega) (by omega)⟩
      · exact Or.inr ⟨j, by omega, by omega, h3, fun t q1 q2 => by
          by_cases q : t = i
          · rw [q]; exact h
          · exact h4 t (by omega) q2, e⟩
theorem byte0 (m : Nat) : List.replicate m (Value.int 0) = (List.replicate m (0 : UInt8)).map byv := by
  rw [List.map_replicate]; rfl
theorem min32_1 {a b : Nat} (ha : a < 2 ^ 31) (hb : b < 2 ^ 31) (h : a ≤ b) : ¬ Int32.ofNat b < Int32.ofNat a := fun q => by have := (lt32 hb ha).mp q; omega
theorem copy_all {us : List UInt8} {i m : Nat} (h : i + m ≤ us.length) : ((List.replicate m (0 : UInt8)).map byv).take 0 ++ ((us.map byv).drop i).take m ++ ((List.replicate m (0 : UInt8)).map byv).drop (0 + m) = ((us.drop i).take m).map byv := by
  rw [List.take_zero, List.nil_append, show ((List.replicate m (0 : UInt8)).map byv).drop (0 + m) = [] from List.drop_eq_nil_of_le (by simp), List.append_nil, List.map_take, List.map_drop]
end Jvm.WK
namespace Jvm.WK
/-! ## 15. masks and remainders of ints -/
theorem mask32 (x : Int32) (m : Nat) (hm : m < 31) : ∃ j : Nat, j < 2 ^ m ∧ x &&& Int32.ofNat (2 ^ m - 1) = Int32.ofNat j := by
  have hp : 2 ^ m ≤ 2 ^ 30 := Nat.pow_le_pow_right (by decide) (by omega)
  have hp0 : 0 < 2 ^ m := Nat.pow_pos (by decide)
  have nat : ∀ j : Nat, j < 2 ^ 31 → (Int32.ofNat j).toBitVec.toNat = j := fun j hj => by
    have : (Int32.ofNat j).toBitVec.toNat = j % 2 ^ 32 := by
      show (BitVec.ofInt 32 (j : Int)).toNat = _
      simp
    rw [this]; omega
  refine ⟨x.toBitVec.toNat % 2 ^ m, Nat.mod_lt _ hp0, ?_⟩
  apply Int32.toBitVec_inj.mp
  apply BitVec.eq_of_toNat_eq
  rw [Int32.toBitVec_and, BitVec.toNat_and, nat _ (by omega), Nat.and_two_pow_sub_one_eq_mod, nat _ (by have := Nat.mod_lt x.toBitVec.toNat hp0; omega)]
theorem mask31 (x : Int32) : ∃ j : Nat, j < 2 ^ 31 ∧ x &&& 2147483647 = Int32.ofNat j := by
  have nat : ∀ j : Nat, j < 2 ^ 31 → (Int32.ofNat j).toBitVec.toNat = j := fun j hj => by
    have : (Int32.ofNat j).toBitVec.toNat = j % 2 ^ 32 := by
      show (BitVec.ofInt 32 (j : Int)).toNat = _
      simp
    rw [this]; omega
  have hm := Nat.mod_lt x.toBitVec.toNat (show 0 < 2 ^ 31 by decide)
  refine ⟨x.toBitVec.toNat % 2 ^ 31, hm, ?_⟩
  apply Int32.toBitVec_inj.mp
  apply BitVec.eq_of_toNat_eq
  rw [Int32.toBitVec_and, BitVec.toNat_and, nat _ hm]
  exact Nat.and_two_pow_sub_one_eq_mod _ 31
theorem rem32 {j m : Nat} (hj : j < 2 ^ 31) (hm : 0 < m) (hm' : m < 2 ^ 31) : Int32.ofNat j % Int32.ofNat m = Int32.ofNat (j % m) := by
  have hl := Nat.mod_lt j hm
  apply Int32.toInt_inj.mp
  rw [Int32.toInt_mod, toInt_ofNat32 hj, toInt_ofNat32 hm', toInt_ofNat32 (by omega), Int.tmod_eq_emod_of_nonneg (by omega)]
  omega
theorem and3p (s : Int32) : 1 + (s &&& 3) = 1 ∨ 1 + (s &&& 3) = 2 ∨ 1 + (s &&& 3) = 3 ∨ 1 + (s &&& 3) = 4 := by
  rcases and3 s with h | h | h | h <;> rw [h]
  · exact Or.inl rfl
  · exact Or.inr (Or.inl rfl)
  · exact Or.inr (Or.inr (Or.inl rfl))
  · exact Or.inr (Or.inr (Or.inr rfl))
theorem rem_31 (x : Int32) {m : Nat} (hm : 0 < m) (hm' : m < 2 ^ 31) : ∃ j, j < m ∧ (x &&& 2147483647) % Int32.ofNat m = Int32.ofNat j := by
  obtain ⟨j, hj, e⟩ := mask31 x
  exact ⟨j % m, Nat.mod_lt _ hm, by rw [e, rem32 hj hm hm']⟩
end Jvm.WK
namespace Jvm.WK
open Sem ClassFile Op Lib Jvm.Stand Jvm.Free Jvm.LawKit Jvm.RoadKit
/-! ## 16. chars of 16 bits; Strings of any chars -/
def c16 (c : UInt16) : Int32 := c.toUInt32.toInt32
def cv (c : UInt16) : Value := .int (c16 c)
theorem c16_nat (c : UInt16) : c16 c = Int32.ofNat c.toNat := by
  apply Int32.toBitVec_inj.mp
  apply BitVec.eq_of_toNat_eq
  have h := c.toNat_lt
  have : (Int32.ofNat c.toNat).toBitVec.toNat = c.toNat % 2 ^ 32 := by
    show (BitVec.ofInt 32 (c.toNat : Int)).toNat = _
    simp
  rw [this]
  show c.toUInt32.toBitVec.toNat = _
  simp
theorem c16_lt (c : UInt16) : c.toNat < 2 ^ 31 := by have h := c.toNat_lt; omega
theorem c16_inj {c d : UInt16} : c16 c = c16 d ↔ c = d := by
  rw [c16_nat, c16_nat, eq32 (c16_lt c) (c16_lt d)]; exact UInt16.toNat_inj
theorem bvnat {j : Nat} (h : j < 2 ^ 31) : (Int32.ofNat j).toBitVec.toNat = j := by
  have : (Int32.ofNat j).toBitVec.toNat = j % 2 ^ 32 := by
    show (BitVec.ofInt 32 (j : Int)).toNat = _
    simp
  rw [this]; omega
theorem i2c_ofNat {j : Nat} (h : j < 65536) : i2c (Int32.ofNat j) = Int32.ofNat j := by
  apply Int32.toBitVec_inj.mp
  apply BitVec.eq_of_toNat_eq
  show (BitVec.setWidth 32 (BitVec.setWidth 16 (Int32.ofNat j).toBitVec)).toNat = _
  rw [BitVec.toNat_setWidth, BitVec.toNat_setWidth, bvnat (by omega)]
  omega
theorem c16_i2c (c : UInt16) : i2c (c16 c) = c16 c := by rw [c16_nat, i2c_ofNat c.toNat_lt]
theorem narrow_char (x : Int32) : narrow .char (.int x) = .int (i2c x) := rfl
theorem c16_narrow (c : UInt16) : narrow .char (.int (c16 c)) = .int (c16 c) := by rw [narrow_char, c16_i2c]
/-- the char that an int becomes -/
def ci (x : Int32) : UInt16 := x.toUInt32.toUInt16
theorem ci_i2c (x : Int32) : i2c x = c16 (ci x) := rfl
def lo16 (c : UInt16) : UInt8 := ((c16 c) >>> ((0 : Int32) &&& 31)).toInt8.toUInt8
def hi16 (c : UInt16) : UInt8 := ((c16 c) >>> ((8 : Int32) &&& 31)).toInt8.toUInt8
theorem by_of (x : Int32) : (x.toInt8.toInt32).toInt8.toInt32 = (x.toInt8.toUInt8).toInt8.toInt32 := by simp
theorem shrk {n k : Nat} (h : n < 2 ^ 31) (y : Int32) (hy : y.toBitVec.smod 32 = BitVec.ofNat 32 k) (hk : k < 32) : Int32.ofNat n >>> y = Int32.ofNat (n / 2 ^ k) := by
  have hd : n / 2 ^ k ≤ n := Nat.div_le_self _ _
  apply Int32.toInt_inj.mp
  rw [toInt_ofNat32 (by omega)]
  show ((Int32.ofNat n).toBitVec.sshiftRight' (y.toBitVec.smod 32)).toInt = _
  rw [hy, BitVec.sshiftRight'_ofNat_eq_sshiftRight, BitVec.toInt_sshiftRight, Nat.mod_eq_of_lt (by omega)]
  show (Int32.ofNat n).toInt >>> k = _
  rw [toInt_ofNat32 h, Int.shiftRight_eq_div_pow]
  simp
theorem shlk {n k : Nat} (y : Int32) (hy : y.toBitVec.smod 32 = BitVec.ofNat 32 k) (hk : k < 32) (h : n * 2 ^ k < 2 ^ 31) : Int32.ofNat n <<< y = Int32.ofNat (n * 2 ^ k) := by
  have hp : 0 < 2 ^ k := Nat.pow_pos (by decide)
  have hn : n ≤ n * 2 ^ k := Nat.le_mul_of_pos_right _ hp
  apply Int32.toBitVec_inj.mp
  apply BitVec.eq_of_toNat_eq
  rw [bvnat h]
  show ((Int32.ofNat n).toBitVec <<< (y.toBitVec.smod 32)).toNat = _
  rw [hy, BitVec.shiftLeft_eq', BitVec.toNat_shiftLeft, bvnat (by omega), BitVec.toNat_ofNat, Nat.mod_eq_of_lt (show k < 2 ^ 32 by omega), Nat.shiftLeft_eq]
  omega
theorem or8 {a b : Nat} (ha : a < 256) (hb : b < 256) : Int32.ofNat a ||| Int32.ofNat (b * 256) = Int32.ofNat (a + b * 256) := by
  apply Int32.toBitVec_inj.mp
  apply BitVec.eq_of_toNat_eq
  rw [Int32.toBitVec_or, BitVec.toNat_or, bvnat (by omega), bvnat (by omega), bvnat (by omega), Nat.or_comm]
  have q := Nat.shiftLeft_add_eq_or_of_lt (i := 8) (show a < 2 ^ 8 from ha) b
  rw [Nat.shiftLeft_eq] at q
  rw [Nat.add_comm]
  exact q.symm
theorem toU8_nat {n : Nat} (h : n < 2 ^ 31) : ((Int32.ofNat n).toInt8.toUInt8).toNat = n % 256 := by
  show ((Int32.ofNat n).toBitVec.signExtend 8).toNat = _
  rw [BitVec.signExtend_eq_setWidth_of_le _ (by decide), BitVec.toNat_setWidth, bvnat h]
theorem lo_nat (c : UInt16) : (lo16 c).toNat = c.toNat % 256 := by
  unfold lo16
  rw [shr0, c16_nat, toU8_nat (c16_lt c)]
theorem hi_nat (c : UInt16) : (hi16 c).toNat = c.toNat / 256 := by
  have h := c.toNat_lt
  unfold hi16
  rw [c16_nat, shrk (k := 8) (c16_lt c) _ (by decide) (by decide), toU8_nat (by omega)]
  omega
theorem lohi (c : UInt16) : i2c (((ch8 (lo16 c)) <<< ((0 : Int32) &&& 31)) ||| ((ch8 (hi16 c)) <<< ((8 : Int32) &&& 31))) = c16 c := by
  have h := c.toNat_lt
  have h1 := lo_nat c
  have h2 := hi_nat c
  rw [ch8_nat, ch8_nat, h1, h2, shlk (k := 0) _ (by decide) (by decide) (by omega), shlk (k := 8) _ (by decide) (by decide) (by omega)]
  rw [show c.toNat % 256 * 2 ^ 0 = c.toNat % 256 by omega, show c.toNat / 256 * 2 ^ 8 = c.toNat / 256 * 256 by omega, or8 (by omega) (by omega), show c.toNat % 256 + c.toNat / 256 * 256 = c.toNat by omega, i2c_ofNat h, c16_nat]
end Jvm.WK
namespace Jvm.WK
open Sem ClassFile Op Lib Jvm.Stand Jvm.Free Jvm.LawKit Jvm.RoadKit
def enc16 (cs : List UInt16) : List UInt8 := cs.flatMap fun c => [lo16 c, hi16 c]
theorem enc16_cons (c : UInt16) (cs : List UInt16) : enc16 (c :: cs) = lo16 c :: hi16 c :: enc16 cs := rfl
theorem enc16_app (cs ds : List UInt16) : enc16 (cs ++ ds) = enc16 cs ++ enc16 ds := by simp [enc16]
theorem enc16_len : ∀ cs : List UInt16, (enc16 cs).length = 2 * cs.length
  | [] => rfl
  | c :: cs => by rw [enc16_cons, List.length_cons, List.length_cons, enc16_len cs, List.length_cons]; omega
theorem enc16_at : ∀ (cs : List UInt16) (i : Nat), i < cs.length → (enc16 cs).getD (2 * i) 0 = lo16 (cs.getD i 0) ∧ (enc16 cs).getD (2 * i + 1) 0 = hi16 (cs.getD i 0)
  | [], i, h => absurd h (Nat.not_lt_zero _)
  | c :: cs, 0, _ => ⟨rfl, rfl⟩
  | c :: cs, i + 1, h => by
    have q := enc16_at cs i (by simpa using h)
    rw [enc16_cons, show 2 * (i + 1) = 2 * i + 1 + 1 by omega]
    exact q
/-- half filled with chars of two bytes -/
def p16 (cs : List UInt16) (i : Nat) : List UInt8 := enc16 (cs.take i) ++ List.replicate (2 * (cs.length - i)) 0
theorem p16_0 (cs : List UInt16) : p16 cs 0 = List.replicate (2 * cs.length) 0 := by simp [p16, enc16]
theorem p16_n (cs : List UInt16) : p16 cs cs.length = enc16 cs := by simp [p16]
theorem p16_len (cs : List UInt16) {i : Nat} (h : i ≤ cs.length) : (p16 cs i).length = 2 * cs.length := by
  simp only [p16, List.length_append, enc16_len, List.length_take, List.length_replicate]; omega
theorem p16_set (cs : List UInt16) {i : Nat} (h : i < cs.length) : ((p16 cs i).set (2 * i) (lo16 (cs.getD i 0))).set (2 * i + 1) (hi16 (cs.getD i 0)) = p16 cs (i + 1) := by
  have e1 : (enc16 (cs.take i)).length = 2 * i := by rw [enc16_len, List.length_take]; omega
  have e2 : 2 * (cs.length - i) = 2 * (cs.length - (i + 1)) + 1 + 1 := by omega
  unfold p16
  rw [e2, List.replicate_succ, List.replicate_succ, List.set_append_right _ _ (by omega), List.set_append_right _ _ (by omega), e1]
  rw [show 2 * i - 2 * i = 0 by omega, show 2 * i + 1 - 2 * i = 0 + 1 by omega, List.set_cons_zero, List.set_cons_succ, List.set_cons_zero, List.take_succ_eq_append_getElem h, enc16_app, List.append_assoc]
  simp [h, enc16]
def lat (cs : List UInt16) : Bool := cs.all fun c => decide (c.toNat < 256)
def l8 (cs : List UInt16) : List UInt8 := cs.map fun c => c.toUInt8
theorem lat_get {cs : List UInt16} (h : lat cs = true) : ∀ c ∈ cs, c.toNat < 256 := by simpa [lat] using h
theorem c16_8 {c : UInt16} (h : c.toNat < 256) : c16 c = ch8 c.toUInt8 := by
  rw [c16_nat, ch8_nat]
  congr 1
  simp; omega
theorem l8_len (cs : List UInt16) : (l8 cs).length = cs.length := by simp [l8]
theorem getD_l8 (cs : List UInt16) {i : Nat} (h : i < cs.length) : (l8 cs).getD i 0 = (cs.getD i 0).toUInt8 := by simp [l8, h]
theorem lat_map {cs : List UInt16} (h : lat cs = true) : cs.map cv = (l8 cs).map chv := by
  rw [l8, List.map_map]
  exact List.map_congr_left fun c hc => congrArg Value.int (c16_8 (lat_get h c hc))
theorem lat_at {cs : List UInt16} (h : lat cs = true) {i : Nat} (hi : i < cs.length) : ch8 ((l8 cs).getD i 0) = c16 (cs.getD i 0) := by
  rw [getD_l8 cs hi, c16_8]
  have : cs.getD i 0 ∈ cs := by simp [hi]
  exact lat_get h _ this
def cod (cs : List UInt16) : Int32 := if lat cs then 0 else 1
def enc (cs : List UInt16) : List UInt8 := if lat cs then l8 cs else enc16 cs
def StrU (l : List Chunk) (a : Addr) (cs : List UInt16) : Prop := ∃ b, strO a b (cod cs) ∈ l ∧ strB b (enc cs) ∈ l
theorem cod_t {cs : List UInt16} (h : lat cs = true) : cod cs = 0 := by simp [cod, h]
theorem cod_f {cs : List UInt16} (h : ¬ lat cs = true) : cod cs = 1 := by simp [cod, h]
theorem enc_t {cs : List UInt16} (h : lat cs = true) : enc cs = l8 cs := by simp [enc, h]
theorem enc_f {cs : List UInt16} (h : ¬ lat cs = true) : enc cs = enc16 cs := by simp [enc, h]
theorem StrU.str {l : List Chunk} {a : Addr} {cs : List UInt16} (h : StrU l a cs) (hl : lat cs = true) : Str l a (l8 cs) := by
  obtain ⟨b, h1, h2⟩ := h
  rw [cod_t hl] at h1; rw [enc_t hl] at h2
  exact ⟨b, h1, h2⟩
theorem StrU.mono {l l' : List Chunk} {a : Addr} {us : List UInt16} (h : StrU l a us) (hl : ∀ x ∈ l, x ∈ l') : StrU l' a us := by obtain ⟨b, h1, h2⟩ := h; exact ⟨b, hl _ h1, hl _ h2⟩
theorem not_lat {cs : List UInt16} (h : ¬ lat cs = true) : ∃ j, j < cs.length ∧ ¬ (cs.getD j 0).toNat < 256 ∧ ∀ i, i < j → (cs.getD i 0).toNat < 256 := by
  induction cs with
  | nil => exact absurd rfl h
  | cons c cs ih =>
    by_cases q : c.toNat < 256
    · have h' : ¬ lat cs = true := fun r => h (by simp only [lat, List.all_cons, Bool.and_eq_true, decide_eq_true_eq]; exact ⟨q, r⟩)
      obtain ⟨j, h1, h2, h3⟩ := ih h'
      refine ⟨j + 1, by simpa using h1, h2, fun i hi => ?_⟩
      cases i with
      | zero => exact q
      | succ i => exact h3 i (by omega)
    · exact ⟨0, by simp, q, fun i hi => absurd hi (Nat.not_lt_zero _)⟩
theorem getD_map16 {cs : List UInt16} {i : Nat} (h : i < cs.length) : (cs.map cv)[i]? = some (cv (cs.getD i 0)) := by simp [h]
theorem c16_gt {c : UInt16} (h : ¬ c.toNat < 256) : (255 : Int32) < c16 c := by
  rw [c16_nat]; exact (lt32 (a := 255) (by decide) (c16_lt c)).mpr (by omega)
theorem c16_le {c : UInt16} (h : c.toNat < 256) : ¬ (255 : Int32) < c16 c := fun q => by
  rw [c16_nat] at q; have := (lt32 (a := 255) (by decide) (c16_lt c)).mp q; omega
theorem neg_ushr {n : Nat} (h0 : 0 < n) (h : 2 * n < 2 ^ 31) : ((XT.ushr (Int32.ofNat n - Int32.ofNat (2 * n)) 31).toInt8).toInt32 = 1 := by
  have e : Int32.ofNat n - Int32.ofNat (2 * n) < 0 := by
    have q : (Int32.ofNat n - Int32.ofNat (2 * n)).toInt = -(n : Int) := by
      rw [Int32.toInt_sub, toInt_ofNat32 (by omega), toInt_ofNat32 (by omega)]
      rw [show (n : Int) - ((2 * n : Nat) : Int) = -(n : Int) by omega]
      have := XT.bmod32 (n := -(n : Int)) ⟨by omega, by omega⟩
      exact this
    rw [Int32.lt_iff_toInt_lt, q]; simp only [Int32.reduceToInt]; omega
  generalize Int32.ofNat n - Int32.ofNat (2 * n) = x at e
  have q : XT.ushr x 31 = 1 := by
    apply Int32.toBitVec_inj.mp
    apply BitVec.eq_of_toNat_eq
    have m : x.toBitVec.toNat ≥ 2 ^ 31 := by
      have e2 : x.toBitVec.toInt < 0 := by have := Int32.lt_iff_toInt_lt.mp e; exact this
      rw [BitVec.toInt_eq_toNat_cond] at e2
      split at e2
      · omega
      · omega
    have lt := x.toBitVec.isLt
    show (x.toBitVec >>> (31 : Nat)).toNat = _
    rw [BitVec.toNat_ushiftRight, Nat.shiftRight_eq_div_pow]
    show _ = 1
    omega
  rw [q]; rfl
end Jvm.WK
namespace Jvm.WK
open Sem ClassFile Op Lib Jvm.Stand Jvm.Free Jvm.LawKit Jvm.RoadKit
theorem int_v {args : Array Value} {first s : State} {o : Option Outcome} {idx : List Nat} {t : Term} {z : Int32} (h : (Cond.eq t (.int z)).value args first o s idx = some true) : t.eval args first o idx s = some (.int z) := by
  simp only [Cond.value, Term.eval] at h
  cases ht : t.eval args first o idx s with
  | none => simp [ht] at h
  | some x => cases x <;> simp [ht] at h ⊢; exact h
end Jvm.WK
namespace Jvm.WK
open Sem ClassFile Op Lib Jvm.Stand Jvm.Free Jvm.LawKit Jvm.RoadKit
/-! ## 17. one String told twice -/
theorem byv_map_inj {us vs : List UInt8} (h : us.map byv = vs.map byv) : us = vs := by
  have inj : ∀ a b : UInt8, byv a = byv b → a = b := fun a b q => byv_inj.mp (by injection q)
  induction us generalizing vs with
  | nil => cases vs with
    | nil => rfl
    | cons v vs => cases h
  | cons u us ih => cases vs with
    | nil => cases h
    | cons v vs =>
      rw [List.map_cons, List.map_cons, List.cons.injEq] at h
      rw [inj _ _ h.1, ih h.2]
section R
variable {κ : Cx} {y : MethodName} {pc pc' : Nat} {L L' : List Slot} {S S' : List Value} {F : List Frame} {l l' : List Chunk} {k n : Nat}
theorem Fld.one {Z : State} {h : Heap} {a : Addr} {C nm d : String} {v w : Value} (F : Fld Z h a C nm d v) (G : Fld Z h a C nm d w) : v = w := by
  by_cases q : v = w
  · exact q
  · exact absurd rfl (F.ne G q)
theorem wp_same {a b b' : Addr} {z z' : Int32} {us vs : List UInt8} (h1 : strO a b z ∈ l) (h2 : strB b us ∈ l) (h3 : strO a b' z' ∈ l) (h4 : strB b' vs ∈ l) (K : z = z' → us = vs → WP κ y pc L S F l k n) : WP κ y pc L S F l k n := fun T G => by
  obtain ⟨-, f1, -⟩ := G.hp.1 _ h1
  obtain ⟨-, f3, -⟩ := G.hp.1 _ h3
  have e1 := Fld.one (f1 ("java/lang/String", "value", "[B", .ref b) (List.mem_cons_self ..)) (f3 ("java/lang/String", "value", "[B", .ref b') (List.mem_cons_self ..))
  have e2 := Fld.one (f1 ("java/lang/String", "coder", "B", .int z) (List.mem_cons_of_mem _ (List.mem_cons_self ..))) (f3 ("java/lang/String", "coder", "B", .int z') (List.mem_cons_of_mem _ (List.mem_cons_self ..)))
  have eb : b = b' := by injection e1
  have ez : z = z' := by injection e2
  subst eb
  obtain ⟨c, A, ec, -⟩ := G.hp.1 _ h2
  obtain ⟨c', A', ec', -⟩ := G.hp.1 _ h4
  have q : c = c' := Option.some.inj (A.1.symm.trans A'.1)
  subst q
  exact K ez (byv_map_inj (ec.symm.trans ec')) T G
end R
theorem up_lat (vs : List UInt8) : lat (vs.map UInt8.toUInt16) = true := by
  simp only [lat, List.all_map, List.all_eq_true, Function.comp_apply, decide_eq_true_eq]
  intro u _
  have := u.toNat_lt
  simp; omega
theorem l8_up (vs : List UInt8) : l8 (vs.map UInt8.toUInt16) = vs := by
  simp [l8, Function.comp_def]
theorem up_l8 {cs : List UInt16} (h : lat cs = true) : (l8 cs).map UInt8.toUInt16 = cs := by
  rw [l8, List.map_map]
  conv => rhs; rw [← List.map_id cs]
  apply List.map_congr_left
  intro c hc
  have := lat_get h c hc
  apply UInt16.toNat_inj.mp
  simp; omega
end Jvm.WK
namespace Jvm.WK
open Sem ClassFile Op Lib Jvm.Stand Jvm.Free Jvm.LawKit Jvm.RoadKit
/-! ## 18. a private method's call -/
section R
variable {κ : Cx} {T : State} {y : MethodName} {pc pc' : Nat} {L L' : List Slot} {S S' : List Value} {F : List Frame} {l l' : List Chunk} {k n : Nat} {bytes : ByteArray} {mx : Nat} {rt : Option FieldType}
theorem wp_private (C : Ok κ) (M : Meth κ y bytes mx rt) {ix : Nat} (hd : decode bytes pc = .ok (.invokevirtual ix, 3)) {y' y2 : MethodName} {bytes' : ByteArray} {mx' : Nat} {rt' : Option FieldType} (M' : Meth κ y' bytes' mx' rt') (w1 : Wd κ (.methodLink y.cls ix y')) (w2 : Wd κ (.privateMethod y')) (w4 : Wd κ (.instanceMethod y')) (hc2 : y2.cls = y'.cls) (w5 : Wd κ (.instanceMethod y2)) (nf : NfW κ y2)
    (hy : y'.cls ≠ "java/lang/invoke/MethodHandle" ∧ y'.cls ≠ "java/lang/invoke/VarHandle") {b : Addr} {mu : Bool} {Cl : String} {fs : List (String × String × String × Value)} (hm : (b, mu, .inl (Cl, fs)) ∈ l) (args : List Value) (hlen : ∀ sig, parseMethodDescriptor y'.desc = some sig → args.length = sig.parameters.length) (hS : S = args.reverse ++ .ref b :: S') (hL : lay (.ref b :: args) mx' = L') (hL' : L'.length = mx') (hR : Rm κ (fr κ y pc L S' :: F) 1 (mx' + 11))
    (K : WP κ y' 0 L' [] (fr κ y pc L S' :: F) l k n) : WP κ y pc L S F l k n := fun T G => by
  obtain ⟨meth, c, X, hb, hml, -⟩ := G.stand C M (d := 1) (w := cats S' + (mx' + 11)) (G.room2 hR)
  subst hb
  obtain ⟨meth', c', h1, h2, h3, h4, h5, h6, h7, -, h8⟩ := M'.get
  obtain ⟨cB, kB, hcB, -, cellB, hcellT, hclsB, hstatB⟩ := G.recv hm
  have v1 := mv (s := base κ T y F) (args := ka κ) G.warm w1
  have v2 := mv (s := base κ T y F) (args := ka κ) G.warm w2
  have v4 := mv (s := base κ T y F) (args := ka κ) G.warm w4
  have v5 := mv (s := base κ T y F) (args := ka κ) G.warm w5
  obtain ⟨mk, methM, hnamed, hmethM, hstM, habM⟩ := Cond.instanceMethod_spec v4
  obtain ⟨m2, -, hn2, -⟩ := Cond.instanceMethod_spec v5
  obtain ⟨kr, hkr, hni⟩ := nf.at (s := base κ T y F) G.warm m2 hn2
  have e1 := findClass_of_methodNamed hnamed
  have e2 := findClass_of_methodNamed hn2
  rw [hc2] at e2
  have ec : m2.cls = mk.cls := Option.some.inj (e2.symm.trans e1)
  rw [ec] at hkr
  have hpriv := Cond.privateMethod_at v2
  have hselP : selectMethod (ke κ).platform (base κ T y F).vm cellB.cls mk = .method mk := selectMethod_private hmethM (hpriv mk methM hnamed hmethM)
  have hsig : parseMethodDescriptor y'.desc = some methM.sig := by
    obtain ⟨mm, cM, q1, -, -, -, -, -, -, q2⟩ := Cond.code_spec hnamed (mv (s := base κ T y F) (args := ka κ) G.warm M'.2)
    cases hmethM.symm.trans q1
    exact q2
  obtain ⟨vm₁, X₁, hstep⟩ := X.invokevirtual C.exec (G.own M) v1 hnamed hmethM hstM hkr hni hy (a := b) (cell := cellB) hcellT (fun z h => by rw [h] at hstatB; cases hstatB) hselP hmethM habM hkr hni (g := mkF (mid κ y) pc L.toArray S) rfl (argsL := args) (rest := S') (hlen _ hsig) hS hd
  have hn' : (base κ T y F).methodNamed? y' = some (mid κ y') := by
    have q : ((kZ κ).setVm T.vm).methodNamed? y' = some (mid κ y') := by rw [State.methodNamed?_setVm G.alike]; exact h1
    exact q
  cases hnamed.symm.trans hn'
  exact G.goU (hstep _ fun acts => by rw [doInvoke_state]; exact Steps.refl _) (G.enter C M hd M' (args_lay hL) hL' hR X₁ hml K)
end R
end Jvm.WK
namespace Jvm.WK
open Sem ClassFile Op Lib Jvm.Stand Jvm.Free Jvm.LawKit Jvm.RoadKit
/-! ## 19. a call of the superclass's method -/
theorem same_self {args : Array Value} {s : State} {y : MethodName} {r0 : MethodId} {kr : Class} (hn : s.methodNamed? y = some r0) (hy : y.cls ≠ "java/lang/invoke/MethodHandle" ∧ y.cls ≠ "java/lang/invoke/VarHandle") (hk : s.vm.classes[r0.cls]? = some kr) (hi : kr.isInterface = false) :
    (Cond.sameMethod y.cls y.cls y.name y.desc).before args s = true := by
  have h1 := findClass_of_methodNamed hn
  have h2 := State.methodFound?_of_named hn hy
  have hn' : s.methodNamed? ⟨y.cls, y.name, y.desc⟩ = some r0 := hn
  simp only [Cond.before, Cond.holds, Cond.value, h1, h2, hn', hk]
  simp [hi]
section R
variable {κ : Cx} {T : State} {y : MethodName} {pc pc' : Nat} {L L' : List Slot} {S S' : List Value} {F : List Frame} {l l' : List Chunk} {k n : Nat} {bytes : ByteArray} {mx : Nat} {rt : Option FieldType}
theorem wp_super (C : Ok κ) (M : Meth κ y bytes mx rt) {ix : Nat} (hd : decode bytes pc = .ok (.invokespecial ix, 3)) {y' y2 : MethodName} {bytes' : ByteArray} {mx' : Nat} {rt' : Option FieldType} (M' : Meth κ y' bytes' mx' rt') (w1 : Wd κ (.methodLink y.cls ix y')) (w4 : Wd κ (.instanceMethod y')) (w5 : Wd κ (.superclass y.cls y'.cls)) (hc2 : y2.cls = y'.cls) (w6 : Wd κ (.instanceMethod y2)) (nf : NfW κ y2) (hin : y'.name ≠ "<init>")
    (hy : y'.cls ≠ "java/lang/invoke/MethodHandle" ∧ y'.cls ≠ "java/lang/invoke/VarHandle") {b : Addr} {mu : Bool} {Cl : String} {fs : List (String × String × String × Value)} (hm : (b, mu, .inl (Cl, fs)) ∈ l) (args : List Value) (hlen : ∀ sig, parseMethodDescriptor y'.desc = some sig → args.length = sig.parameters.length) (hS : S = args.reverse ++ .ref b :: S') (hL : lay (.ref b :: args) mx' = L') (hL' : L'.length = mx') (hR : Rm κ (fr κ y pc L S' :: F) 1 (mx' + 11))
    (K : WP κ y' 0 L' [] (fr κ y pc L S' :: F) l k n) : WP κ y pc L S F l k n := fun T G => by
  obtain ⟨meth, c, X, hb, hml, -⟩ := G.stand C M (d := 1) (w := cats S' + (mx' + 11)) (G.room2 hR)
  subst hb
  obtain ⟨meth', c', h1, h2, h3, h4, h5, h6, h7, -, h8⟩ := M'.get
  obtain ⟨cB, kB, hcB, hkB, cellB, hcellT, hclsB, hstatB⟩ := G.recv hm
  have v1 := mv (s := base κ T y F) (args := ka κ) G.warm w1
  have v4 := mv (s := base κ T y F) (args := ka κ) G.warm w4
  have v5 := mv (s := base κ T y F) (args := ka κ) G.warm w5
  obtain ⟨mk, methM, hnamed, hmethM, hstM, habM⟩ := Cond.instanceMethod_spec v4
  have hcn := findClass_of_methodNamed hnamed
  have hown := G.own M
  obtain ⟨dk, hdk, -⟩ := Vm.findClass_spec hown
  obtain ⟨kp, hkp, -⟩ := Vm.findClass_spec hcn
  simp only [Cond.before, Cond.holds, Cond.value, hown, hcn, hdk, hkp, Option.bind_some, Option.map_some] at v5
  have v5' : ((dk.super = some mk.cls ∧ dk.kind = .ordinary) ∧ kp.kind = .ordinary) ∧ dk.isInterface = false := by simpa using v5
  obtain ⟨m2, -, hn2, -⟩ := Cond.instanceMethod_spec (mv (s := base κ T y F) (args := ka κ) G.warm w6)
  obtain ⟨kr, hkr, hni⟩ := nf.at (s := base κ T y F) G.warm m2 hn2
  have e2 := findClass_of_methodNamed hn2
  rw [hc2] at e2
  have ec : m2.cls = mk.cls := Option.some.inj (e2.symm.trans hcn)
  rw [ec] at hkr
  cases hkp.symm.trans hkr
  have hsig : parseMethodDescriptor y'.desc = some methM.sig := by
    obtain ⟨mm, cM, q1, -, -, -, -, -, -, q2⟩ := Cond.code_spec hnamed (mv (s := base κ T y F) (args := ka κ) G.warm M'.2)
    cases hmethM.symm.trans q1
    exact q2
  obtain ⟨vm₁, X₁, hstep⟩ := X.invokespecialUp C.exec (owner := y'.cls) hown v1 (same_self hnamed hy hkp hni) hnamed hmethM hstM habM hin hdk v5'.2 hcn v5'.1.1.1 (by simp [Vm.isSubclass, Vm.isSubclassAux]) (a := b) hcellT (fun z h => by rw [h] at hstatB; cases hstatB) (by rw [hclsB]; exact hkB) (g := mkF (mid κ y) pc L.toArray S) rfl (hlen _ hsig) hS hd
  have hn' : (base κ T y F).methodNamed? y' = some (mid κ y') := by
    have q : ((kZ κ).setVm T.vm).methodNamed? y' = some (mid κ y') := by rw [State.methodNamed?_setVm G.alike]; exact h1
    exact q
  cases hnamed.symm.trans hn'
  exact G.goU (hstep _ (by rw [doInvoke_state]; exact Steps.refl _)) (G.enter C M hd M' (args_lay hL) hL' hR X₁ hml K)
end R
end Jvm.WK
namespace Jvm.WK
open Sem ClassFile Op Lib Jvm.Stand Jvm.Free Jvm.LawKit Jvm.RoadKit
/-! ## 20. a builder's bytes -/
def sbl (us : List UInt8) (cap : Nat) : List UInt8 := us ++ List.replicate (cap - us.length) 0
theorem sbl_len {us : List UInt8} {cap : Nat} (h : us.length ≤ cap) : (sbl us cap).length = cap := by simp [sbl]; omega
theorem sbl_nil (cap : Nat) : sbl [] cap = List.replicate cap 0 := by simp [sbl]
theorem sbl_put {us : List UInt8} {cap : Nat} (h : us.length < cap) (u : UInt8) : (sbl us cap).set us.length u = sbl (us ++ [u]) cap := by
  unfold sbl
  rw [show cap - us.length = (cap - (us ++ [u]).length) + 1 by simp; omega, List.replicate_succ, List.set_append_right _ _ (by omega), Nat.sub_self, List.set_cons_zero, List.append_assoc]
  rfl
theorem sbl_copy {us vs : List UInt8} {cap : Nat} (h : us.length + vs.length ≤ cap) : (sbl us cap).take us.length ++ vs ++ (sbl us cap).drop (us.length + vs.length) = sbl (us ++ vs) cap := by
  unfold sbl
  rw [List.take_left', List.drop_append, List.drop_eq_nil_of_le (by omega), List.nil_append, List.drop_replicate]
  · congr 2
    simp; omega
  · rfl
theorem sbl_take (us : List UInt8) (cap : Nat) : (sbl us cap).take us.length = us := by
  unfold sbl
  exact List.take_left' rfl
theorem sbl_cpv {us vs : List UInt8} {cap : Nat} (h : us.length + vs.length ≤ cap) : ((sbl us cap).map byv).take us.length ++ ((vs.map byv).drop 0).take vs.length ++ ((sbl us cap).map byv).drop (us.length + vs.length) = (sbl (us ++ vs) cap).map byv := by
  have e : ((vs.map byv).drop 0).take vs.length = vs.map byv := by rw [List.drop_zero, List.take_of_length_le (by simp)]
  rw [e, ← sbl_copy h, List.map_append, List.map_append, List.map_take, List.map_drop]
theorem sub_le32 {a b : Nat} (h : a ≤ b) (hb : b < 2 ^ 31) : ¬ 0 < Int32.ofNat a - Int32.ofNat b := by
  intro q
  rw [Int32.lt_iff_toInt_lt, Int32.toInt_sub, toInt_ofNat32 (by omega), toInt_ofNat32 hb, XT.bmod32 ⟨by omega, by omega⟩] at q
  have e : (0 : Int32).toInt = 0 := rfl
  omega
end Jvm.WK
namespace Jvm.WK
open Sem ClassFile Op Lib Jvm.Stand Jvm.Free Jvm.LawKit Jvm.RoadKit
theorem or32 {a b : Nat} (ha : a < 2 ^ 31) (hb : b < 2 ^ 31) : Int32.ofNat a ||| Int32.ofNat b = Int32.ofNat (a ||| b) := by
  have h : a ||| b < 2 ^ 31 := Nat.or_lt_two_pow ha hb
  apply Int32.toBitVec_inj.mp
  apply BitVec.eq_of_toNat_eq
  rw [Int32.toBitVec_or, BitVec.toNat_or, bvnat ha, bvnat hb, bvnat h]
theorem or3_nn {a b c : Nat} (ha : a < 2 ^ 31) (hb : b < 2 ^ 31) (hc : c < 2 ^ 31) : ¬ (Int32.ofNat a ||| Int32.ofNat b) ||| Int32.ofNat c < 0 := by
  rw [or32 ha hb, or32 (Nat.or_lt_two_pow ha hb) hc]
  exact nn32 (Nat.or_lt_two_pow (Nat.or_lt_two_pow ha hb) hc)
theorem sb16_put {cs : List UInt16} {C2 : Nat} (h : 2 * cs.length + 2 ≤ C2) (c : UInt16) : ((sbl (enc16 cs) C2).set (2 * cs.length) (lo16 c)).set (2 * cs.length + 1) (hi16 c) = sbl (enc16 (cs ++ [c])) C2 := by
  have e := enc16_len cs
  have h1 := sbl_put (us := enc16 cs) (cap := C2) (by omega) (lo16 c)
  have h2 := sbl_put (us := enc16 cs ++ [lo16 c]) (cap := C2) (by simp; omega) (hi16 c)
  rw [e] at h1
  rw [List.length_append, e] at h2
  rw [h1]
  have h2' : (sbl (enc16 cs ++ [lo16 c]) C2).set (2 * cs.length + 1) (hi16 c) = sbl (enc16 cs ++ [lo16 c] ++ [hi16 c]) C2 := h2
  rw [h2', enc16_app, List.append_assoc]
  rfl
abbrev up16 (us : List UInt8) : List UInt16 := us.map UInt8.toUInt16
theorem ch8_16 (u : UInt8) : ch8 u = c16 u.toUInt16 := by
  rw [ch8_nat, c16_nat]; congr 1
end Jvm.WK
namespace Jvm.WK
open Sem ClassFile Op Lib Jvm.Stand Jvm.Free Jvm.LawKit Jvm.RoadKit
/-! what at() lays at place i -/
def AtOK (i s p q : Nat) (u : UInt8) : Prop := (i < s → u ≠ 58) ∧ (i = s → u = 58) ∧ (s < i → i < s + 3 → u = 47) ∧ (s + 3 ≤ i → i < p → u ≠ 47) ∧ (s + 3 ≤ i → i = p → u = 47) ∧ (s + 3 ≤ i → p < i → i < q → u ≠ 63) ∧ (s + 3 ≤ i → p < i → i = q → u = 63)
theorem mask64_7 (x : Int64) : ∃ j : Nat, j < 8 ∧ Int64.toInt32 (x &&& 7) = Int32.ofNat j := by
  refine ⟨x.toBitVec.toNat % 8, Nat.mod_lt _ (by decide), ?_⟩
  have h : (x &&& 7).toBitVec.toNat = x.toBitVec.toNat % 8 := by
    rw [Int64.toBitVec_and, BitVec.toNat_and]
    exact Nat.and_two_pow_sub_one_eq_mod _ 3
  have hl := Nat.mod_lt x.toBitVec.toNat (show 0 < 8 by decide)
  apply Int32.toBitVec_inj.mp
  apply BitVec.eq_of_toNat_eq
  rw [bvnat (by omega)]
  show ((x &&& 7).toBitVec.signExtend 32).toNat = _
  rw [BitVec.signExtend_eq_setWidth_of_le _ (by decide), BitVec.toNat_setWidth, h]
  omega
theorem ix_of {us : List UInt8} {c : UInt8} {d i p : Nat} (hip : i ≤ p) (hpe : p ≤ i + d) (hp : p < i + d → us.getD p 0 = c) (hn : ∀ t, i ≤ t → t < p → us.getD t 0 ≠ c) : (p < i + d ∧ ixc us c d i = Int32.ofNat p) ∨ (p = i + d ∧ ixc us c d i = -1) := by
  rcases ixc_spec us c d i with ⟨e, H⟩ | ⟨j, h1, h2, h3, h4, e⟩
  · by_cases q : p < i + d
    · exact absurd (hp q) (H p hip q)
    · exact Or.inr ⟨by omega, e⟩
  · by_cases q : j < p
    · exact absurd h3 (hn j h1 q)
    · by_cases q2 : p < j
      · exact absurd (hp (by omega)) (h4 p hip q2)
      · obtain rfl : j = p := by omega
        exact Or.inl ⟨h2, e⟩
theorem at_ix {us : List UInt8} {s p q : Nat} (hl : us.length = 16) (H : ∀ i, i < 16 → AtOK i s p q (us.getD i 0)) (h1 : s + 3 < p) (h2 : p ≤ 16) (h3 : (p < q ∧ q ≤ 16) ∨ (p = 16 ∧ q = 16)) :
    ((p < us.length ∧ ixc us 47 (us.length - (s + 3)) (s + 3) = Int32.ofNat p) ∨ (p = us.length ∧ ixc us 47 (us.length - (s + 3)) (s + 3) = -1)) ∧
    ((q < us.length ∧ ixc us 63 (us.length - p) p = Int32.ofNat q) ∨ (q = us.length ∧ ixc us 63 (us.length - p) p = -1)) := by
  have A := ix_of (us := us) (c := 47) (d := us.length - (s + 3)) (i := s + 3) (p := p) (by omega) (by omega) (fun r => (H p (by omega)).2.2.2.2.1 (by omega) rfl) (fun t r1 r2 => (H t (by omega)).2.2.2.1 (by omega) r2)
  have B := ix_of (us := us) (c := 63) (d := us.length - p) (i := p) (p := q) (by omega) (by omega) (fun r => (H q (by omega)).2.2.2.2.2.2 (by omega) (by omega) rfl) (fun t r1 r2 => by
    by_cases e : t = p
    · have := (H t (by omega)).2.2.2.2.1 (by omega) e
      rw [this]; decide
    · exact (H t (by omega)).2.2.2.2.2.1 (by omega) (by omega) r2)
  rw [show s + 3 + (us.length - (s + 3)) = us.length by omega] at A
  rw [show p + (us.length - p) = us.length by omega] at B
  exact ⟨A, B⟩
theorem at_sc {us : List UInt8} {s p q : Nat} (H : ∀ i, i < 16 → AtOK i s p q (us.getD i 0)) (h1 : s + 3 ≤ 16) : (∀ i, i < s → us.getD i 0 ≠ 58) ∧ us.getD s 0 = 58 ∧ us.getD (s + 1) 0 = 47 ∧ us.getD (s + 2) 0 = 47 :=
  ⟨fun i hi => (H i (by omega)).1 hi, (H s (by omega)).2.1 rfl, (H (s + 1) (by omega)).2.2.1 (by omega) (by omega), (H (s + 2) (by omega)).2.2.1 (by omega) (by omega)⟩
end Jvm.WK
namespace Jvm.Pilot.@@N@@
open Jvm Jvm.ClassFile Sem Op Lib Jvm.Free Jvm.Stand Jvm.LawKit Jvm.RoadKit Jvm.WK
def Ws (κ : Cx) : Prop := ∀ d ∈ (Jvm.Cond.code x code maxLocals ret :: tables_1), Wd κ d
section Words
variable {κ : Cx}
abbrev y0 : MethodName := ⟨"com/example/lean_crawler/leancrawler/url/UrlNormalizerPathPinLaw", "law", "(IIIJ)Z"⟩
abbrev y1 : MethodName := ⟨"java/lang/String", "coder", "()B"⟩
abbrev y2 : MethodName := ⟨"java/lang/String", "length", "()I"⟩
abbrev y3 : MethodName := ⟨"java/lang/String", "isLatin1", "()Z"⟩
abbrev y4 : MethodName := ⟨"jdk/internal/util/Preconditions", "checkIndex", "(IILjava/util/function/BiFunction;)I"⟩
abbrev y5 : MethodName := ⟨"java/lang/String", "checkIndex", "(II)V"⟩
abbrev y6 : MethodName := ⟨"java/lang/StringLatin1", "charAt", "([BI)C"⟩
abbrev y7 : MethodName := ⟨"java/lang/String", "charAt", "(I)C"⟩
abbrev y8 : MethodName := ⟨"java/lang/StringUTF16", "compress", "([CI[BII)I"⟩
abbrev y9 : MethodName := ⟨"java/lang/StringUTF16", "compress", "([CII)[B"⟩
abbrev y10 : MethodName := ⟨"java/lang/StringUTF16", "coderFromArrayLen", "([BI)B"⟩
abbrev y11 : MethodName := ⟨"java/lang/String", "<init>", "([CIILjava/lang/Void;)V"⟩
abbrev y12 : MethodName := ⟨"java/lang/String", "<init>", "([C)V"⟩
abbrev y13 : MethodName := ⟨"java/lang/Math", "max", "(II)I"⟩
abbrev y14 : MethodName := ⟨"java/lang/Math", "min", "(II)I"⟩
abbrev y15 : MethodName := ⟨"java/lang/StringLatin1", "canEncode", "(I)Z"⟩
abbrev y16 : MethodName := ⟨"java/lang/StringLatin1", "indexOfChar", "([BIII)I"⟩
abbrev y17 : MethodName := ⟨"java/lang/StringLatin1", "indexOf", "([BIII)I"⟩
abbrev y18 : MethodName := ⟨"java/lang/String", "indexOf", "(II)I"⟩
abbrev y19 : MethodName := ⟨"jdk/internal/util/Preconditions", "checkFromToIndex", "(IIILjava/util/function/BiFunction;)I"⟩
abbrev y20 : MethodName := ⟨"java/lang/String", "checkBoundsBeginEnd", "(III)V"⟩
abbrev y21 : MethodName := ⟨"java/util/Arrays", "checkLength", "(II)V"⟩
abbrev y22 : MethodName := ⟨"java/util/Arrays", "copyOfRangeByte", "([BII)[B"⟩
abbrev y23 : MethodName := ⟨"java/util/Arrays", "copyOfRange", "([BII)[B"⟩
abbrev y24 : MethodName := ⟨"java/lang/String", "<init>", "([BB)V"⟩
abbrev y25 : MethodName := ⟨"java/lang/StringLatin1", "newString", "([BII)Ljava/lang/String;"⟩
abbrev y26 : MethodName := ⟨"java/lang/String", "substring", "(II)Ljava/lang/String;"⟩
abbrev y27 : MethodName := ⟨"com/example/lean_crawler/leancrawler/url/UrlNormalizerPathPinLaw", "at", "(IIIIIJ)C"⟩
abbrev y28 : MethodName := ⟨"java/lang/StringLatin1", "indexOf", "([BI[BII)I"⟩
abbrev y29 : MethodName := ⟨"java/lang/StringLatin1", "indexOf", "([B[B)I"⟩
abbrev y30 : MethodName := ⟨"java/lang/String", "indexOf", "(Ljava/lang/String;)I"⟩
abbrev y31 : MethodName := ⟨"com/example/lean_crawler/leancrawler/url/UrlNormalizer", "pathStart", "(Ljava/lang/String;)I"⟩
abbrev y32 : MethodName := ⟨"com/example/lean_crawler/leancrawler/url/UrlNormalizer", "path", "(Ljava/lang/String;)Ljava/lang/String;"⟩
abbrev y33 : MethodName := ⟨"com/example/lean_crawler/leancrawler/url/UrlNormalizerPathPinLaw", "same", "(Ljava/lang/String;[CII)Z"⟩
theorem w1 (hw : Ws κ) : Wd κ (Jvm.Cond.constant "com/example/lean_crawler/leancrawler/url/UrlNormalizerPathPinLaw" (27 : Nat) (2147483647 : Int32)) := hw _ (List.mem_of_getElem? (i := 1) rfl)
theorem w2 (hw : Ws κ) : Wd κ (Jvm.Cond.arrayClass Jvm.ClassFile.FieldType.char) := hw _ (List.mem_of_getElem? (i := 2) rfl)
theorem w3 (hw : Ws κ) : Wd κ (Jvm.Cond.methodLink "com/example/lean_crawler/leancrawler/url/UrlNormalizerPathPinLaw" (28 : Nat) ({ cls := "com/example/lean_crawler/leancrawler/url/UrlNormalizerPathPinLaw", name := "at", desc := "(IIIIIJ)C" } : Jvm.MethodName)) := hw _ (List.mem_of_getElem? (i := 3) rfl)
theorem w4 (hw : Ws κ) : Wd κ (Jvm.Cond.static ({ cls := "com/example/lean_crawler/leancrawler/url/UrlNormalizerPathPinLaw", name := "at", desc := "(IIIIIJ)C" } : Jvm.MethodName)) := hw _ (List.mem_of_getElem? (i := 4) rfl)
theorem w5 (hw : Ws κ) : Wd κ (Jvm.Cond.initialized "com/example/lean_crawler/leancrawler/url/UrlNormalizerPathPinLaw") := hw _ (List.mem_of_getElem? (i := 5) rfl)
theorem w7 (hw : Ws κ) : Wd κ (Jvm.Cond.constantLong "com/example/lean_crawler/leancrawler/url/UrlNormalizerPathPinLaw" (7 : Nat) (7 : Int64)) := hw _ (List.mem_of_getElem? (i := 7) rfl)
theorem w8 (hw : Ws κ) : Wd κ (Jvm.Cond.stringLink "com/example/lean_crawler/leancrawler/url/UrlNormalizerPathPinLaw" (9 : Nat) "https") := hw _ (List.mem_of_getElem? (i := 8) rfl)
theorem w9 (hw : Ws κ) : Wd κ (Jvm.Cond.initialized "java/lang/String") := hw _ (List.mem_of_getElem? (i := 9) rfl)
theorem w10 (hw : Ws κ) : Wd κ (Jvm.Cond.instantiable "java/lang/String" (4 : Nat)) := hw _ (List.mem_of_getElem? (i := 10) rfl)
theorem w11 (hw : Ws κ) : Wd κ (Jvm.Cond.arrayClass Jvm.ClassFile.FieldType.byte) := hw _ (List.mem_of_getElem? (i := 11) rfl)
theorem w12 (hw : Ws κ) : Wd κ (Jvm.Cond.laysFinal "java/lang/String" "java/lang/String" "value" "[B") := hw _ (List.mem_of_getElem? (i := 12) rfl)
theorem w13 (hw : Ws κ) : Wd κ (Jvm.Cond.laysFinal "java/lang/String" "java/lang/String" "coder" "B") := hw _ (List.mem_of_getElem? (i := 13) rfl)
theorem w14 (hw : Ws κ) : Wd κ (Jvm.Cond.soleField "java/lang/String" "value") := hw _ (List.mem_of_getElem? (i := 14) rfl)
theorem w15 (hw : Ws κ) : Wd κ (Jvm.Cond.soleField "java/lang/String" "coder") := hw _ (List.mem_of_getElem? (i := 15) rfl)
theorem w16 (hw : Ws κ) : Wd κ (Jvm.Cond.methodLink "com/example/lean_crawler/leancrawler/url/UrlNormalizerPathPinLaw" (11 : Nat) ({ cls := "java/lang/String", name := "charAt", desc := "(I)C" } : Jvm.MethodName)) := hw _ (List.mem_of_getElem? (i := 16) rfl)
theorem w17 (hw : Ws κ) : Wd κ (Jvm.Cond.declares ({ cls := "java/lang/String", name := "charAt", desc := "(I)C" } : Jvm.MethodName)) := hw _ (List.mem_of_getElem? (i := 17) rfl)
theorem w18 (hw : Ws κ) : Wd κ (Jvm.Cond.instanceMethod ({ cls := "java/lang/String", name := "charAt", desc := "(I)C" } : Jvm.MethodName)) := hw _ (List.mem_of_getElem? (i := 18) rfl)
theorem w19 (hw : Ws κ) : Wd κ (Jvm.Cond.selects "java/lang/String" ({ cls := "java/lang/String", name := "charAt", desc := "(I)C" } : Jvm.MethodName) ({ cls := "java/lang/String", name := "charAt", desc := "(I)C" } : Jvm.MethodName)) := hw _ (List.mem_of_getElem? (i := 19) rfl)
theorem w21 (hw : Ws κ) : Wd κ (Jvm.Cond.methodLink "java/lang/String" (492 : Nat) ({ cls := "java/lang/String", name := "isLatin1", desc := "()Z" } : Jvm.MethodName)) := hw _ (List.mem_of_getElem? (i := 21) rfl)
theorem w22 (hw : Ws κ) : Wd κ (Jvm.Cond.declares ({ cls := "java/lang/String", name := "isLatin1", desc := "()Z" } : Jvm.MethodName)) := hw _ (List.mem_of_getElem? (i := 22) rfl)
theorem w23 (hw : Ws κ) : Wd κ (Jvm.Cond.instanceMethod ({ cls := "java/lang/String", name := "isLatin1", desc := "()Z" } : Jvm.MethodName)) := hw _ (List.mem_of_getElem? (i := 23) rfl)
theorem w24 (hw : Ws κ) : Wd κ (Jvm.Cond.selects "java/lang/String" ({ cls := "java/lang/String", name := "isLatin1", desc := "()Z" } : Jvm.MethodName) ({ cls := "java/lang/String", name := "isLatin1", desc := "()Z" } : Jvm.MethodName)) := hw _ (List.mem_of_getElem? (i := 24) rfl)
theorem w26 (hw : Ws κ) : Wd κ (Jvm.Cond.fieldLink "java/lang/String" (38 : Nat) "java/lang/String" "COMPACT_STRINGS" "Z") := hw _ (List.mem_of_getElem? (i := 26) rfl)
theorem w27 (hw : Ws κ) : Wd κ (Jvm.Cond.fieldLink "java/lang/String" (15 : Nat) "java/lang/String" "coder" "B") := hw _ (List.mem_of_getElem? (i := 27) rfl)
theorem w28 (hw : Ws κ) : Wd κ (Jvm.Cond.fieldLink "java/lang/String" (9 : Nat) "java/lang/String" "value" "[B") := hw _ (List.mem_of_getElem? (i := 28) rfl)
theorem w29 (hw : Ws κ) : Wd κ (Jvm.Cond.methodLink "java/lang/String" (495 : Nat) ({ cls := "java/lang/StringLatin1", name := "charAt", desc := "([BI)C" } : Jvm.MethodName)) := hw _ (List.mem_of_getElem? (i := 29) rfl)
theorem w30 (hw : Ws κ) : Wd κ (Jvm.Cond.static ({ cls := "java/lang/StringLatin1", name := "charAt", desc := "([BI)C" } : Jvm.MethodName)) := hw _ (List.mem_of_getElem? (i := 30) rfl)
theorem w31 (hw : Ws κ) : Wd κ (Jvm.Cond.initialized "java/lang/StringLatin1") := hw _ (List.mem_of_getElem? (i := 31) rfl)
theorem w33 (hw : Ws κ) : Wd κ (Jvm.Cond.methodLink "java/lang/StringLatin1" (9 : Nat) ({ cls := "java/lang/String", name := "checkIndex", desc := "(II)V" } : Jvm.MethodName)) := hw _ (List.mem_of_getElem? (i := 33) rfl)
theorem w34 (hw : Ws κ) : Wd κ (Jvm.Cond.static ({ cls := "java/lang/String", name := "checkIndex", desc := "(II)V" } : Jvm.MethodName)) := hw _ (List.mem_of_getElem? (i := 34) rfl)
theorem w36 (hw : Ws κ) : Wd κ (Jvm.Cond.fieldLink "java/lang/String" (1053 : Nat) "jdk/internal/util/Preconditions" "SIOOBE_FORMATTER" "Ljava/util/function/BiFunction;") := hw _ (List.mem_of_getElem? (i := 36) rfl)
theorem w37 (hw : Ws κ) : Wd κ (Jvm.Cond.initialized "jdk/internal/util/Preconditions") := hw _ (List.mem_of_getElem? (i := 37) rfl)
theorem w38 (hw : Ws κ) : Wd κ (Jvm.Cond.methodLink "java/lang/String" (1059 : Nat) ({ cls := "jdk/internal/util/Preconditions", name := "checkIndex", desc := "(IILjava/util/function/BiFunction;)I" } : Jvm.MethodName)) := hw _ (List.mem_of_getElem? (i := 38) rfl)
theorem w39 (hw : Ws κ) : Wd κ (Jvm.Cond.static ({ cls := "jdk/internal/util/Preconditions", name := "checkIndex", desc := "(IILjava/util/function/BiFunction;)I" } : Jvm.MethodName)) := hw _ (List.mem_of_getElem? (i := 39) rfl)
theorem w41 (hw : Ws κ) : Wd κ (Jvm.Cond.stringLink "com/example/lean_crawler/leancrawler/url/UrlNormalizerPathPinLaw" (17 : Nat) "aZ0.:-%9") := hw _ (List.mem_of_getElem? (i := 41) rfl)
theorem w42 (hw : Ws κ) : Wd κ (Jvm.Cond.stringLink "com/example/lean_crawler/leancrawler/url/UrlNormalizerPathPinLaw" (19 : Nat) "a/.%:@B~") := hw _ (List.mem_of_getElem? (i := 42) rfl)
theorem w43 (hw : Ws κ) : Wd κ (Jvm.Cond.stringLink "com/example/lean_crawler/leancrawler/url/UrlNormalizerPathPinLaw" (21 : Nat) "a/?=&:%B") := hw _ (List.mem_of_getElem? (i := 43) rfl)
theorem w44 (hw : Ws κ) : Wd κ (Jvm.Cond.classLink "com/example/lean_crawler/leancrawler/url/UrlNormalizerPathPinLaw" (12 : Nat) "java/lang/String") := hw _ (List.mem_of_getElem? (i := 44) rfl)
theorem w45 (hw : Ws κ) : Wd κ (Jvm.Cond.methodLink "com/example/lean_crawler/leancrawler/url/UrlNormalizerPathPinLaw" (34 : Nat) ({ cls := "java/lang/String", name := "<init>", desc := "([C)V" } : Jvm.MethodName)) := hw _ (List.mem_of_getElem? (i := 45) rfl)
theorem w46 (hw : Ws κ) : Wd κ (Jvm.Cond.instanceMethod ({ cls := "java/lang/String", name := "<init>", desc := "([C)V" } : Jvm.MethodName)) := hw _ (List.mem_of_getElem? (i := 46) rfl)
theorem w48 (hw : Ws κ) : Wd κ (Jvm.Cond.methodLink "java/lang/String" (27 : Nat) ({ cls := "java/lang/String", name := "<init>", desc := "([CIILjava/lang/Void;)V" } : Jvm.MethodName)) := hw _ (List.mem_of_getElem? (i := 48) rfl)
theorem w49 (hw : Ws κ) : Wd κ (Jvm.Cond.instanceMethod ({ cls := "java/lang/String", name := "<init>", desc := "([CIILjava/lang/Void;)V" } : Jvm.MethodName)) := hw _ (List.mem_of_getElem? (i := 49) rfl)
theorem w52 (hw : Ws κ) : Wd κ (Jvm.Cond.methodLink "java/lang/String" (1 : Nat) ({ cls := "java/lang/Object", name := "<init>", desc := "()V" } : Jvm.MethodName)) := hw _ (List.mem_of_getElem? (i := 52) rfl)
theorem w53 (hw : Ws κ) : Wd κ (Jvm.Cond.instanceMethod ({ cls := "java/lang/Object", name := "<init>", desc := "()V" } : Jvm.MethodName)) := hw _ (List.mem_of_getElem? (i := 53) rfl)
theorem w54 (hw : Ws κ) : Wd κ (Jvm.Cond.code ({ cls := "java/lang/Object", name := "<init>", desc := "()V" } : Jvm.MethodName) object_method_1_code (1 : Nat) (Option.none : Option Jvm.ClassFile.FieldType)) := hw _ (List.mem_of_getElem? (i := 54) rfl)
theorem w55 (hw : Ws κ) : Wd κ (Jvm.Cond.methodLink "java/lang/String" (177 : Nat) ({ cls := "java/lang/StringUTF16", name := "compress", desc := "([CII)[B" } : Jvm.MethodName)) := hw _ (List.mem_of_getElem? (i := 55) rfl)
theorem w56 (hw : Ws κ) : Wd κ (Jvm.Cond.static ({ cls := "java/lang/StringUTF16", name := "compress", desc := "([CII)[B" } : Jvm.MethodName)) := hw _ (List.mem_of_getElem? (i := 56) rfl)
theorem w57 (hw : Ws κ) : Wd κ (Jvm.Cond.initialized "java/lang/StringUTF16") := hw _ (List.mem_of_getElem? (i := 57) rfl)
theorem w59 (hw : Ws κ) : Wd κ (Jvm.Cond.methodLink "java/lang/StringUTF16" (115 : Nat) ({ cls := "java/lang/StringUTF16", name := "compress", desc := "([CI[BII)I" } : Jvm.MethodName)) := hw _ (List.mem_of_getElem? (i := 59) rfl)
theorem w60 (hw : Ws κ) : Wd κ (Jvm.Cond.static ({ cls := "java/lang/StringUTF16", name := "compress", desc := "([CI[BII)I" } : Jvm.MethodName)) := hw _ (List.mem_of_getElem? (i := 60) rfl)
theorem w62 (hw : Ws κ) : Wd κ (Jvm.Cond.methodLink "java/lang/String" (47 : Nat) ({ cls := "java/lang/StringUTF16", name := "coderFromArrayLen", desc := "([BI)B" } : Jvm.MethodName)) := hw _ (List.mem_of_getElem? (i := 62) rfl)
theorem w63 (hw : Ws κ) : Wd κ (Jvm.Cond.static ({ cls := "java/lang/StringUTF16", name := "coderFromArrayLen", desc := "([BI)B" } : Jvm.MethodName)) := hw _ (List.mem_of_getElem? (i := 63) rfl)
theorem w65 (hw : Ws κ) : Wd κ (Jvm.Cond.methodLink "com/example/lean_crawler/leancrawler/url/UrlNormalizerPathPinLaw" (37 : Nat) ({ cls := "com/example/lean_crawler/leancrawler/url/UrlNormalizer", name := "path", desc := "(Ljava/lang/String;)Ljava/lang/String;" } : Jvm.MethodName)) := hw _ (List.mem_of_getElem? (i := 65) rfl)
theorem w66 (hw : Ws κ) : Wd κ (Jvm.Cond.static ({ cls := "com/example/lean_crawler/leancrawler/url/UrlNormalizer", name := "path", desc := "(Ljava/lang/String;)Ljava/lang/String;" } : Jvm.MethodName)) := hw _ (List.mem_of_getElem? (i := 66) rfl)
theorem w67 (hw : Ws κ) : Wd κ (Jvm.Cond.initialized "com/example/lean_crawler/leancrawler/url/UrlNormalizer") := hw _ (List.mem_of_getElem? (i := 67) rfl)
theorem w69 (hw : Ws κ) : Wd κ (Jvm.Cond.methodLink "com/example/lean_crawler/leancrawler/url/UrlNormalizer" (133 : Nat) ({ cls := "com/example/lean_crawler/leancrawler/url/UrlNormalizer", name := "pathStart", desc := "(Ljava/lang/String;)I" } : Jvm.MethodName)) := hw _ (List.mem_of_getElem? (i := 69) rfl)
theorem w70 (hw : Ws κ) : Wd κ (Jvm.Cond.static ({ cls := "com/example/lean_crawler/leancrawler/url/UrlNormalizer", name := "pathStart", desc := "(Ljava/lang/String;)I" } : Jvm.MethodName)) := hw _ (List.mem_of_getElem? (i := 70) rfl)
theorem w72 (hw : Ws κ) : Wd κ (Jvm.Cond.stringLink "com/example/lean_crawler/leancrawler/url/UrlNormalizer" (113 : Nat) "://") := hw _ (List.mem_of_getElem? (i := 72) rfl)
theorem w73 (hw : Ws κ) : Wd κ (Jvm.Cond.methodLink "com/example/lean_crawler/leancrawler/url/UrlNormalizer" (139 : Nat) ({ cls := "java/lang/String", name := "indexOf", desc := "(Ljava/lang/String;)I" } : Jvm.MethodName)) := hw _ (List.mem_of_getElem? (i := 73) rfl)
theorem w74 (hw : Ws κ) : Wd κ (Jvm.Cond.declares ({ cls := "java/lang/String", name := "indexOf", desc := "(Ljava/lang/String;)I" } : Jvm.MethodName)) := hw _ (List.mem_of_getElem? (i := 74) rfl)
theorem w75 (hw : Ws κ) : Wd κ (Jvm.Cond.instanceMethod ({ cls := "java/lang/String", name := "indexOf", desc := "(Ljava/lang/String;)I" } : Jvm.MethodName)) := hw _ (List.mem_of_getElem? (i := 75) rfl)
theorem w76 (hw : Ws κ) : Wd κ (Jvm.Cond.selects "java/lang/String" ({ cls := "java/lang/String", name := "indexOf", desc := "(Ljava/lang/String;)I" } : Jvm.MethodName) ({ cls := "java/lang/String", name := "indexOf", desc := "(Ljava/lang/String;)I" } : Jvm.MethodName)) := hw _ (List.mem_of_getElem? (i := 76) rfl)
theorem w78 (hw : Ws κ) : Wd κ (Jvm.Cond.methodLink "java/lang/String" (335 : Nat) ({ cls := "java/lang/String", name := "coder", desc := "()B" } : Jvm.MethodName)) := hw _ (List.mem_of_getElem? (i := 78) rfl)
theorem w79 (hw : Ws κ) : Wd κ (Jvm.Cond.declares ({ cls := "java/lang/String", name := "coder", desc := "()B" } : Jvm.MethodName)) := hw _ (List.mem_of_getElem? (i := 79) rfl)
theorem w80 (hw : Ws κ) : Wd κ (Jvm.Cond.instanceMethod ({ cls := "java/lang/String", name := "coder", desc := "()B" } : Jvm.MethodName)) := hw _ (List.mem_of_getElem? (i := 80) rfl)
theorem w81 (hw : Ws κ) : Wd κ (Jvm.Cond.selects "java/lang/String" ({ cls := "java/lang/String", name := "coder", desc := "()B" } : Jvm.MethodName) ({ cls := "java/lang/String", name := "coder", desc := "()B" } : Jvm.MethodName)) := hw _ (List.mem_of_getElem? (i := 81) rfl)
theorem w83 (hw : Ws κ) : Wd κ (Jvm.Cond.methodLink "java/lang/String" (647 : Nat) ({ cls := "java/lang/StringLatin1", name := "indexOf", desc := "([B[B)I" } : Jvm.MethodName)) := hw _ (List.mem_of_getElem? (i := 83) rfl)
theorem w84 (hw : Ws κ) : Wd κ (Jvm.Cond.static ({ cls := "java/lang/StringLatin1", name := "indexOf", desc := "([B[B)I" } : Jvm.MethodName)) := hw _ (List.mem_of_getElem? (i := 84) rfl)
theorem w86 (hw : Ws κ) : Wd κ (Jvm.Cond.methodLink "java/lang/StringLatin1" (99 : Nat) ({ cls := "java/lang/StringLatin1", name := "indexOf", desc := "([BI[BII)I" } : Jvm.MethodName)) := hw _ (List.mem_of_getElem? (i := 86) rfl)
theorem w87 (hw : Ws κ) : Wd κ (Jvm.Cond.static ({ cls := "java/lang/StringLatin1", name := "indexOf", desc := "([BI[BII)I" } : Jvm.MethodName)) := hw _ (List.mem_of_getElem? (i := 87) rfl)
theorem w89 (hw : Ws κ) : Wd κ (Jvm.Cond.methodLink "com/example/lean_crawler/leancrawler/url/UrlNormalizer" (76 : Nat) ({ cls := "java/lang/String", name := "length", desc := "()I" } : Jvm.MethodName)) := hw _ (List.mem_of_getElem? (i := 89) rfl)
theorem w90 (hw : Ws κ) : Wd κ (Jvm.Cond.declares ({ cls := "java/lang/String", name := "length", desc := "()I" } : Jvm.MethodName)) := hw _ (List.mem_of_getElem? (i := 90) rfl)
theorem w91 (hw : Ws κ) : Wd κ (Jvm.Cond.instanceMethod ({ cls := "java/lang/String", name := "length", desc := "()I" } : Jvm.MethodName)) := hw _ (List.mem_of_getElem? (i := 91) rfl)
theorem w92 (hw : Ws κ) : Wd κ (Jvm.Cond.selects "java/lang/String" ({ cls := "java/lang/String", name := "length", desc := "()I" } : Jvm.MethodName) ({ cls := "java/lang/String", name := "length", desc := "()I" } : Jvm.MethodName)) := hw _ (List.mem_of_getElem? (i := 92) rfl)
theorem w94 (hw : Ws κ) : Wd κ (Jvm.Cond.methodLink "com/example/lean_crawler/leancrawler/url/UrlNormalizer" (136 : Nat) ({ cls := "java/lang/String", name := "indexOf", desc := "(II)I" } : Jvm.MethodName)) := hw _ (List.mem_of_getElem? (i := 94) rfl)
theorem w95 (hw : Ws κ) : Wd κ (Jvm.Cond.declares ({ cls := "java/lang/String", name := "indexOf", desc := "(II)I" } : Jvm.MethodName)) := hw _ (List.mem_of_getElem? (i := 95) rfl)
theorem w96 (hw : Ws κ) : Wd κ (Jvm.Cond.instanceMethod ({ cls := "java/lang/String", name := "indexOf", desc := "(II)I" } : Jvm.MethodName)) := hw _ (List.mem_of_getElem? (i := 96) rfl)
theorem w97 (hw : Ws κ) : Wd κ (Jvm.Cond.selects "java/lang/String" ({ cls := "java/lang/String", name := "indexOf", desc := "(II)I" } : Jvm.MethodName) ({ cls := "java/lang/String", name := "indexOf", desc := "(II)I" } : Jvm.MethodName)) := hw _ (List.mem_of_getElem? (i := 97) rfl)
theorem w99 (hw : Ws κ) : Wd κ (Jvm.Cond.methodLink "java/lang/String" (505 : Nat) ({ cls := "java/lang/String", name := "length", desc := "()I" } : Jvm.MethodName)) := hw _ (List.mem_of_getElem? (i := 99) rfl)
theorem w100 (hw : Ws κ) : Wd κ (Jvm.Cond.methodLink "java/lang/String" (637 : Nat) ({ cls := "java/lang/StringLatin1", name := "indexOf", desc := "([BIII)I" } : Jvm.MethodName)) := hw _ (List.mem_of_getElem? (i := 100) rfl)
theorem w101 (hw : Ws κ) : Wd κ (Jvm.Cond.static ({ cls := "java/lang/StringLatin1", name := "indexOf", desc := "([BIII)I" } : Jvm.MethodName)) := hw _ (List.mem_of_getElem? (i := 101) rfl)
theorem w103 (hw : Ws κ) : Wd κ (Jvm.Cond.methodLink "java/lang/StringLatin1" (88 : Nat) ({ cls := "java/lang/StringLatin1", name := "canEncode", desc := "(I)Z" } : Jvm.MethodName)) := hw _ (List.mem_of_getElem? (i := 103) rfl)
theorem w104 (hw : Ws κ) : Wd κ (Jvm.Cond.static ({ cls := "java/lang/StringLatin1", name := "canEncode", desc := "(I)Z" } : Jvm.MethodName)) := hw _ (List.mem_of_getElem? (i := 104) rfl)
theorem w106 (hw : Ws κ) : Wd κ (Jvm.Cond.methodLink "java/lang/StringLatin1" (92 : Nat) ({ cls := "java/lang/Math", name := "max", desc := "(II)I" } : Jvm.MethodName)) := hw _ (List.mem_of_getElem? (i := 106) rfl)
theorem w107 (hw : Ws κ) : Wd κ (Jvm.Cond.static ({ cls := "java/lang/Math", name := "max", desc := "(II)I" } : Jvm.MethodName)) := hw _ (List.mem_of_getElem? (i := 107) rfl)
theorem w108 (hw : Ws κ) : Wd κ (Jvm.Cond.initialized "java/lang/Math") := hw _ (List.mem_of_getElem? (i := 108) rfl)
theorem w110 (hw : Ws κ) : Wd κ (Jvm.Cond.methodLink "java/lang/StringLatin1" (38 : Nat) ({ cls := "java/lang/Math", name := "min", desc := "(II)I" } : Jvm.MethodName)) := hw _ (List.mem_of_getElem? (i := 110) rfl)
theorem w111 (hw : Ws κ) : Wd κ (Jvm.Cond.static ({ cls := "java/lang/Math", name := "min", desc := "(II)I" } : Jvm.MethodName)) := hw _ (List.mem_of_getElem? (i := 111) rfl)
theorem w113 (hw : Ws κ) : Wd κ (Jvm.Cond.methodLink "java/lang/StringLatin1" (95 : Nat) ({ cls := "java/lang/StringLatin1", name := "indexOfChar", desc := "([BIII)I" } : Jvm.MethodName)) := hw _ (List.mem_of_getElem? (i := 113) rfl)
theorem w114 (hw : Ws κ) : Wd κ (Jvm.Cond.static ({ cls := "java/lang/StringLatin1", name := "indexOfChar", desc := "([BIII)I" } : Jvm.MethodName)) := hw _ (List.mem_of_getElem? (i := 114) rfl)
theorem w116 (hw : Ws κ) : Wd κ (Jvm.Cond.methodLink "com/example/lean_crawler/leancrawler/url/UrlNormalizer" (68 : Nat) ({ cls := "java/lang/String", name := "substring", desc := "(II)Ljava/lang/String;" } : Jvm.MethodName)) := hw _ (List.mem_of_getElem? (i := 116) rfl)
theorem w117 (hw : Ws κ) : Wd κ (Jvm.Cond.declares ({ cls := "java/lang/String", name := "substring", desc := "(II)Ljava/lang/String;" } : Jvm.MethodName)) := hw _ (List.mem_of_getElem? (i := 117) rfl)
theorem w118 (hw : Ws κ) : Wd κ (Jvm.Cond.instanceMethod ({ cls := "java/lang/String", name := "substring", desc := "(II)Ljava/lang/String;" } : Jvm.MethodName)) := hw _ (List.mem_of_getElem? (i := 118) rfl)
theorem w119 (hw : Ws κ) : Wd κ (Jvm.Cond.selects "java/lang/String" ({ cls := "java/lang/String", name := "substring", desc := "(II)Ljava/lang/String;" } : Jvm.MethodName) ({ cls := "java/lang/String", name := "substring", desc := "(II)Ljava/lang/String;" } : Jvm.MethodName)) := hw _ (List.mem_of_getElem? (i := 119) rfl)
theorem w121 (hw : Ws κ) : Wd κ (Jvm.Cond.methodLink "java/lang/String" (521 : Nat) ({ cls := "java/lang/String", name := "checkBoundsBeginEnd", desc := "(III)V" } : Jvm.MethodName)) := hw _ (List.mem_of_getElem? (i := 121) rfl)
theorem w122 (hw : Ws κ) : Wd κ (Jvm.Cond.static ({ cls := "java/lang/String", name := "checkBoundsBeginEnd", desc := "(III)V" } : Jvm.MethodName)) := hw _ (List.mem_of_getElem? (i := 122) rfl)
theorem w124 (hw : Ws κ) : Wd κ (Jvm.Cond.methodLink "java/lang/String" (1062 : Nat) ({ cls := "jdk/internal/util/Preconditions", name := "checkFromToIndex", desc := "(IIILjava/util/function/BiFunction;)I" } : Jvm.MethodName)) := hw _ (List.mem_of_getElem? (i := 124) rfl)
theorem w125 (hw : Ws κ) : Wd κ (Jvm.Cond.static ({ cls := "jdk/internal/util/Preconditions", name := "checkFromToIndex", desc := "(IIILjava/util/function/BiFunction;)I" } : Jvm.MethodName)) := hw _ (List.mem_of_getElem? (i := 125) rfl)
theorem w127 (hw : Ws κ) : Wd κ (Jvm.Cond.methodLink "java/lang/String" (685 : Nat) ({ cls := "java/lang/StringLatin1", name := "newString", desc := "([BII)Ljava/lang/String;" } : Jvm.MethodName)) := hw _ (List.mem_of_getElem? (i := 127) rfl)
theorem w128 (hw : Ws κ) : Wd κ (Jvm.Cond.static ({ cls := "java/lang/StringLatin1", name := "newString", desc := "([BII)Ljava/lang/String;" } : Jvm.MethodName)) := hw _ (List.mem_of_getElem? (i := 128) rfl)
theorem w130 (hw : Ws κ) : Wd κ (Jvm.Cond.classLink "java/lang/StringLatin1" (1 : Nat) "java/lang/String") := hw _ (List.mem_of_getElem? (i := 130) rfl)
theorem w131 (hw : Ws κ) : Wd κ (Jvm.Cond.methodLink "java/lang/StringLatin1" (232 : Nat) ({ cls := "java/util/Arrays", name := "copyOfRange", desc := "([BII)[B" } : Jvm.MethodName)) := hw _ (List.mem_of_getElem? (i := 131) rfl)
theorem w132 (hw : Ws κ) : Wd κ (Jvm.Cond.static ({ cls := "java/util/Arrays", name := "copyOfRange", desc := "([BII)[B" } : Jvm.MethodName)) := hw _ (List.mem_of_getElem? (i := 132) rfl)
theorem w133 (hw : Ws κ) : Wd κ (Jvm.Cond.initialized "java/util/Arrays") := hw _ (List.mem_of_getElem? (i := 133) rfl)
theorem w135 (hw : Ws κ) : Wd κ (Jvm.Cond.methodLink "java/util/Arrays" (339 : Nat) ({ cls := "java/util/Arrays", name := "copyOfRangeByte", desc := "([BII)[B" } : Jvm.MethodName)) := hw _ (List.mem_of_getElem? (i := 135) rfl)
theorem w136 (hw : Ws κ) : Wd κ (Jvm.Cond.static ({ cls := "java/util/Arrays", name := "copyOfRangeByte", desc := "([BII)[B" } : Jvm.MethodName)) := hw _ (List.mem_of_getElem? (i := 136) rfl)
theorem w138 (hw : Ws κ) : Wd κ (Jvm.Cond.methodLink "java/util/Arrays" (343 : Nat) ({ cls := "java/util/Arrays", name := "checkLength", desc := "(II)V" } : Jvm.MethodName)) := hw _ (List.mem_of_getElem? (i := 138) rfl)
theorem w139 (hw : Ws κ) : Wd κ (Jvm.Cond.static ({ cls := "java/util/Arrays", name := "checkLength", desc := "(II)V" } : Jvm.MethodName)) := hw _ (List.mem_of_getElem? (i := 139) rfl)
theorem w141 (hw : Ws κ) : Wd κ (Jvm.Cond.methodLink "java/util/Arrays" (304 : Nat) ({ cls := "java/lang/Math", name := "min", desc := "(II)I" } : Jvm.MethodName)) := hw _ (List.mem_of_getElem? (i := 141) rfl)
theorem w142 (hw : Ws κ) : Wd κ (Jvm.Cond.methodLink "java/util/Arrays" (150 : Nat) ({ cls := "java/lang/System", name := "arraycopy", desc := "(Ljava/lang/Object;ILjava/lang/Object;II)V" } : Jvm.MethodName)) := hw _ (List.mem_of_getElem? (i := 142) rfl)
theorem w143 (hw : Ws κ) : Wd κ (Jvm.Cond.static ({ cls := "java/lang/System", name := "arraycopy", desc := "(Ljava/lang/Object;ILjava/lang/Object;II)V" } : Jvm.MethodName)) := hw _ (List.mem_of_getElem? (i := 143) rfl)
theorem w144 (hw : Ws κ) : Wd κ (Jvm.Cond.initialized "java/lang/System") := hw _ (List.mem_of_getElem? (i := 144) rfl)
theorem w145 (hw : Ws κ) : Wd κ (Jvm.Cond.native ({ cls := "java/lang/System", name := "arraycopy", desc := "(Ljava/lang/Object;ILjava/lang/Object;II)V" } : Jvm.MethodName)) := hw _ (List.mem_of_getElem? (i := 145) rfl)
theorem w146 (hw : Ws κ) : Wd κ (Jvm.Cond.methodLink "java/lang/StringLatin1" (112 : Nat) ({ cls := "java/lang/String", name := "<init>", desc := "([BB)V" } : Jvm.MethodName)) := hw _ (List.mem_of_getElem? (i := 146) rfl)
theorem w147 (hw : Ws κ) : Wd κ (Jvm.Cond.instanceMethod ({ cls := "java/lang/String", name := "<init>", desc := "([BB)V" } : Jvm.MethodName)) := hw _ (List.mem_of_getElem? (i := 147) rfl)
theorem w149 (hw : Ws κ) : Wd κ (Jvm.Cond.methodLink "com/example/lean_crawler/leancrawler/url/UrlNormalizerPathPinLaw" (23 : Nat) ({ cls := "java/lang/String", name := "length", desc := "()I" } : Jvm.MethodName)) := hw _ (List.mem_of_getElem? (i := 149) rfl)
theorem w150 (hw : Ws κ) : Wd κ (Jvm.Cond.methodLink "com/example/lean_crawler/leancrawler/url/UrlNormalizerPathPinLaw" (43 : Nat) ({ cls := "com/example/lean_crawler/leancrawler/url/UrlNormalizerPathPinLaw", name := "same", desc := "(Ljava/lang/String;[CII)Z" } : Jvm.MethodName)) := hw _ (List.mem_of_getElem? (i := 150) rfl)
theorem w151 (hw : Ws κ) : Wd κ (Jvm.Cond.static ({ cls := "com/example/lean_crawler/leancrawler/url/UrlNormalizerPathPinLaw", name := "same", desc := "(Ljava/lang/String;[CII)Z" } : Jvm.MethodName)) := hw _ (List.mem_of_getElem? (i := 151) rfl)
theorem w153 (hw : Ws κ) : Wd κ (Jvm.Cond.stringLink "java/lang/StringLatin1" (151 : Nat) "") := hw _ (List.mem_of_getElem? (i := 153) rfl)
theorem M0 (hw : Ws κ) : Meth κ y0 code maxLocals (some .boolean) := ⟨by decide +kernel, hw _ (List.mem_of_getElem? (i := 0) rfl)⟩
theorem M1 (hw : Ws κ) : Meth κ y1 jdk_42_method_152_code 1 (Option.some Jvm.ClassFile.FieldType.byte) := ⟨by decide +kernel, hw _ (List.mem_of_getElem? (i := 82) rfl)⟩
theorem M2 (hw : Ws κ) : Meth κ y2 jdk_42_method_54_code 1 (Option.some Jvm.ClassFile.FieldType.int) := ⟨by decide +kernel, hw _ (List.mem_of_getElem? (i := 93) rfl)⟩
theorem M3 (hw : Ws κ) : Meth κ y3 jdk_42_method_154_code 1 (Option.some Jvm.ClassFile.FieldType.boolean) := ⟨by decide +kernel, hw _ (List.mem_of_getElem? (i := 25) rfl)⟩
theorem M4 (hw : Ws κ) : Meth κ y4 jdk_41_method_11_code 3 (Option.some Jvm.ClassFile.FieldType.int) := ⟨by decide +kernel, hw _ (List.mem_of_getElem? (i := 40) rfl)⟩
theorem M5 (hw : Ws κ) : Meth κ y5 jdk_42_method_155_code 2 (Option.none : Option Jvm.ClassFile.FieldType) := ⟨by decide +kernel, hw _ (List.mem_of_getElem? (i := 35) rfl)⟩
theorem M6 (hw : Ws κ) : Meth κ y6 jdk_43_method_2_code 2 (Option.some Jvm.ClassFile.FieldType.char) := ⟨by decide +kernel, hw _ (List.mem_of_getElem? (i := 32) rfl)⟩
theorem M7 (hw : Ws κ) : Meth κ y7 jdk_42_method_56_code 2 (Option.some Jvm.ClassFile.FieldType.char) := ⟨by decide +kernel, hw _ (List.mem_of_getElem? (i := 20) rfl)⟩
theorem M8 (hw : Ws κ) : Meth κ y8 jdk_52_method_21_code 7 (Option.some Jvm.ClassFile.FieldType.int) := ⟨by decide +kernel, hw _ (List.mem_of_getElem? (i := 61) rfl)⟩
theorem M9 (hw : Ws κ) : Meth κ y9 jdk_52_method_16_code 6 (Option.some (Jvm.ClassFile.FieldType.array Jvm.ClassFile.FieldType.byte)) := ⟨by decide +kernel, hw _ (List.mem_of_getElem? (i := 58) rfl)⟩
theorem M10 (hw : Ws κ) : Meth κ y10 jdk_52_method_15_code 2 (Option.some Jvm.ClassFile.FieldType.byte) := ⟨by decide +kernel, hw _ (List.mem_of_getElem? (i := 64) rfl)⟩
theorem M11 (hw : Ws κ) : Meth κ y11 jdk_42_method_149_code 6 (Option.none : Option Jvm.ClassFile.FieldType) := ⟨by decide +kernel, hw _ (List.mem_of_getElem? (i := 51) rfl)⟩
theorem M12 (hw : Ws κ) : Meth κ y12 jdk_42_method_3_code 2 (Option.none : Option Jvm.ClassFile.FieldType) := ⟨by decide +kernel, hw _ (List.mem_of_getElem? (i := 47) rfl)⟩
theorem M13 (hw : Ws κ) : Meth κ y13 jdk_29_method_65_code 2 (Option.some Jvm.ClassFile.FieldType.int) := ⟨by decide +kernel, hw _ (List.mem_of_getElem? (i := 109) rfl)⟩
theorem M14 (hw : Ws κ) : Meth κ y14 jdk_29_method_69_code 2 (Option.some Jvm.ClassFile.FieldType.int) := ⟨by decide +kernel, hw _ (List.mem_of_getElem? (i := 112) rfl)⟩
theorem M15 (hw : Ws κ) : Meth κ y15 jdk_43_method_4_code 1 (Option.some Jvm.ClassFile.FieldType.boolean) := ⟨by decide +kernel, hw _ (List.mem_of_getElem? (i := 105) rfl)⟩
theorem M16 (hw : Ws κ) : Meth κ y16 jdk_43_method_23_code 6 (Option.some Jvm.ClassFile.FieldType.int) := ⟨by decide +kernel, hw _ (List.mem_of_getElem? (i := 115) rfl)⟩
theorem M17 (hw : Ws κ) : Meth κ y17 jdk_43_method_22_code 4 (Option.some Jvm.ClassFile.FieldType.int) := ⟨by decide +kernel, hw _ (List.mem_of_getElem? (i := 102) rfl)⟩
theorem M18 (hw : Ws κ) : Meth κ y18 jdk_42_method_80_code 3 (Option.some Jvm.ClassFile.FieldType.int) := ⟨by decide +kernel, hw _ (List.mem_of_getElem? (i := 98) rfl)⟩
theorem M19 (hw : Ws κ) : Meth κ y19 jdk_41_method_12_code 4 (Option.some Jvm.ClassFile.FieldType.int) := ⟨by decide +kernel, hw _ (List.mem_of_getElem? (i := 126) rfl)⟩
theorem M20 (hw : Ws κ) : Meth κ y20 jdk_42_method_158_code 3 (Option.none : Option Jvm.ClassFile.FieldType) := ⟨by decide +kernel, hw _ (List.mem_of_getElem? (i := 123) rfl)⟩
theorem M21 (hw : Ws κ) : Meth κ y21 jdk_65_method_131_code 2 (Option.none : Option Jvm.ClassFile.FieldType) := ⟨by decide +kernel, hw _ (List.mem_of_getElem? (i := 140) rfl)⟩
theorem M22 (hw : Ws κ) : Meth κ y22 jdk_65_method_133_code 5 (Option.some (Jvm.ClassFile.FieldType.array Jvm.ClassFile.FieldType.byte)) := ⟨by decide +kernel, hw _ (List.mem_of_getElem? (i := 137) rfl)⟩
theorem M23 (hw : Ws κ) : Meth κ y23 jdk_65_method_132_code 3 (Option.some (Jvm.ClassFile.FieldType.array Jvm.ClassFile.FieldType.byte)) := ⟨by decide +kernel, hw _ (List.mem_of_getElem? (i := 134) rfl)⟩
theorem M24 (hw : Ws κ) : Meth κ y24 jdk_42_method_151_code 3 (Option.none : Option Jvm.ClassFile.FieldType) := ⟨by decide +kernel, hw _ (List.mem_of_getElem? (i := 148) rfl)⟩
theorem M25 (hw : Ws κ) : Meth κ y25 jdk_43_method_47_code 3 (Option.some (Jvm.ClassFile.FieldType.object "java/lang/String")) := ⟨by decide +kernel, hw _ (List.mem_of_getElem? (i := 129) rfl)⟩
theorem M26 (hw : Ws κ) : Meth κ y26 jdk_42_method_92_code 5 (Option.some (Jvm.ClassFile.FieldType.object "java/lang/String")) := ⟨by decide +kernel, hw _ (List.mem_of_getElem? (i := 120) rfl)⟩
theorem M27 (hw : Ws κ) : Meth κ y27 method_2_code 8 (Option.some Jvm.ClassFile.FieldType.char) := ⟨by decide +kernel, hw _ (List.mem_of_getElem? (i := 6) rfl)⟩
theorem M28 (hw : Ws κ) : Meth κ y28 jdk_43_method_25_code 11 (Option.some Jvm.ClassFile.FieldType.int) := ⟨by decide +kernel, hw _ (List.mem_of_getElem? (i := 88) rfl)⟩
theorem M29 (hw : Ws κ) : Meth κ y29 jdk_43_method_24_code 2 (Option.some Jvm.ClassFile.FieldType.int) := ⟨by decide +kernel, hw _ (List.mem_of_getElem? (i := 85) rfl)⟩
theorem M30 (hw : Ws κ) : Meth κ y30 jdk_42_method_84_code 3 (Option.some Jvm.ClassFile.FieldType.int) := ⟨by decide +kernel, hw _ (List.mem_of_getElem? (i := 77) rfl)⟩
theorem M31 (hw : Ws κ) : Meth κ y31 prog_15_method_6_code 2 (Option.some Jvm.ClassFile.FieldType.int) := ⟨by decide +kernel, hw _ (List.mem_of_getElem? (i := 71) rfl)⟩
theorem M32 (hw : Ws κ) : Meth κ y32 prog_15_method_4_code 3 (Option.some (Jvm.ClassFile.FieldType.object "java/lang/String")) := ⟨by decide +kernel, hw _ (List.mem_of_getElem? (i := 68) rfl)⟩
theorem M33 (hw : Ws κ) : Meth κ y33 method_3_code 4 (Option.some Jvm.ClassFile.FieldType.boolean) := ⟨by decide +kernel, hw _ (List.mem_of_getElem? (i := 152) rfl)⟩
theorem pd0 : parseMethodDescriptor y0.desc = some ⟨[.int, .int, .int, .long], some (.boolean)⟩ := by decide +kernel
theorem pd1 : parseMethodDescriptor y1.desc = some ⟨[], some (.byte)⟩ := by decide +kernel
theorem pd2 : parseMethodDescriptor y2.desc = some ⟨[], some (.int)⟩ := by decide +kernel
theorem pd3 : parseMethodDescriptor y3.desc = some ⟨[], some (.boolean)⟩ := by decide +kernel
theorem pd4 : parseMethodDescriptor y4.desc = some ⟨[.int, .int, .object "java/util/function/BiFunction"], some (.int)⟩ := by decide +kernel
theorem pd5 : parseMethodDescriptor y5.desc = some ⟨[.int, .int], none⟩ := by decide +kernel
theorem pd6 : parseMethodDescriptor y6.desc = some ⟨[.array (.byte), .int], some (.char)⟩ := by decide +kernel
theorem pd7 : parseMethodDescriptor y7.desc = some ⟨[.int], some (.char)⟩ := by decide +kernel
theorem pd8 : parseMethodDescriptor y8.desc = some ⟨[.array (.char), .int, .array (.byte), .int, .int], some (.int)⟩ := by decide +kernel
theorem pd9 : parseMethodDescriptor y9.desc = some ⟨[.array (.char), .int, .int], some (.array (.byte))⟩ := by decide +kernel
theorem pd10 : parseMethodDescriptor y10.desc = some ⟨[.array (.byte), .int], some (.byte)⟩ := by decide +kernel
theorem pd11 : parseMethodDescriptor y11.desc = some ⟨[.array (.char), .int, .int, .object "java/lang/Void"], none⟩ := by decide +kernel
theorem pd12 : parseMethodDescriptor y12.desc = some ⟨[.array (.char)], none⟩ := by decide +kernel
theorem pd13 : parseMethodDescriptor y13.desc = some ⟨[.int, .int], some (.int)⟩ := by decide +kernel
theorem pd14 : parseMethodDescriptor y14.desc = some ⟨[.int, .int], some (.int)⟩ := by decide +kernel
theorem pd15 : parseMethodDescriptor y15.desc = some ⟨[.int], some (.boolean)⟩ := by decide +kernel
theorem pd16 : parseMethodDescriptor y16.desc = some ⟨[.array (.byte), .int, .int, .int], some (.int)⟩ := by decide +kernel
theorem pd17 : parseMethodDescriptor y17.desc = some ⟨[.array (.byte), .int, .int, .int], some (.int)⟩ := by decide +kernel
theorem pd18 : parseMethodDescriptor y18.desc = some ⟨[.int, .int], some (.int)⟩ := by decide +kernel
theorem pd19 : parseMethodDescriptor y19.desc = some ⟨[.int, .int, .int, .object "java/util/function/BiFunction"], some (.int)⟩ := by decide +kernel
theorem pd20 : parseMethodDescriptor y20.desc = some ⟨[.int, .int, .int], none⟩ := by decide +kernel
theorem pd21 : parseMethodDescriptor y21.desc = some ⟨[.int, .int], none⟩ := by decide +kernel
theorem pd22 : parseMethodDescriptor y22.desc = some ⟨[.array (.byte), .int, .int], some (.array (.byte))⟩ := by decide +kernel
theorem pd23 : parseMethodDescriptor y23.desc = some ⟨[.array (.byte), .int, .int], some (.array (.byte))⟩ := by decide +kernel
theorem pd24 : parseMethodDescriptor y24.desc = some ⟨[.array (.byte), .byte], none⟩ := by decide +kernel
theorem pd25 : parseMethodDescriptor y25.desc = some ⟨[.array (.byte), .int, .int], some (.object "java/lang/String")⟩ := by decide +kernel
theorem pd26 : parseMethodDescriptor y26.desc = some ⟨[.int, .int], some (.object "java/lang/String")⟩ := by decide +kernel
theorem pd27 : parseMethodDescriptor y27.desc = some ⟨[.int, .int, .int, .int, .int, .long], some (.char)⟩ := by decide +kernel
theorem pd28 : parseMethodDescriptor y28.desc = some ⟨[.array (.byte), .int, .array (.byte), .int, .int], some (.int)⟩ := by decide +kernel
theorem pd29 : parseMethodDescriptor y29.desc = some ⟨[.array (.byte), .array (.byte)], some (.int)⟩ := by decide +kernel
theorem pd30 : parseMethodDescriptor y30.desc = some ⟨[.object "java/lang/String"], some (.int)⟩ := by decide +kernel
theorem pd31 : parseMethodDescriptor y31.desc = some ⟨[.object "java/lang/String"], some (.int)⟩ := by decide +kernel
theorem pd32 : parseMethodDescriptor y32.desc = some ⟨[.object "java/lang/String"], some (.object "java/lang/String")⟩ := by decide +kernel
theorem pd33 : parseMethodDescriptor y33.desc = some ⟨[.object "java/lang/String", .array (.char), .int, .int], some (.boolean)⟩ := by decide +kernel
theorem d0_104 : decode code 104 = .ok (.invokestatic 28, 3) := by decide +kernel
theorem d0_107 : decode code 107 = .ok (.castore, 1) := by decide +kernel
theorem d0_121 : decode code 121 = .ok (.invokestatic 28, 3) := by decide +kernel
theorem d0_124 : decode code 124 = .ok (.castore, 1) := by decide +kernel
theorem d0_138 : decode code 138 = .ok (.invokestatic 28, 3) := by decide +kernel
theorem d0_141 : decode code 141 = .ok (.castore, 1) := by decide +kernel
theorem d0_155 : decode code 155 = .ok (.invokestatic 28, 3) := by decide +kernel
theorem d0_158 : decode code 158 = .ok (.castore, 1) := by decide +kernel
theorem d0_172 : decode code 172 = .ok (.invokestatic 28, 3) := by decide +kernel
theorem d0_175 : decode code 175 = .ok (.castore, 1) := by decide +kernel
theorem d0_189 : decode code 189 = .ok (.invokestatic 28, 3) := by decide +kernel
theorem d0_192 : decode code 192 = .ok (.castore, 1) := by decide +kernel
theorem d0_208 : decode code 208 = .ok (.invokestatic 28, 3) := by decide +kernel
theorem d0_211 : decode code 211 = .ok (.castore, 1) := by decide +kernel
theorem d0_227 : decode code 227 = .ok (.invokestatic 28, 3) := by decide +kernel
theorem d0_230 : decode code 230 = .ok (.castore, 1) := by decide +kernel
theorem d0_246 : decode code 246 = .ok (.invokestatic 28, 3) := by decide +kernel
theorem d0_249 : decode code 249 = .ok (.castore, 1) := by decide +kernel
theorem d0_25 : decode code 25 = .ok (.if_icmp .ne 7, 3) := by decide +kernel
theorem d0_265 : decode code 265 = .ok (.invokestatic 28, 3) := by decide +kernel
theorem d0_268 : decode code 268 = .ok (.castore, 1) := by decide +kernel
theorem d0_284 : decode code 284 = .ok (.invokestatic 28, 3) := by decide +kernel
theorem d0_287 : decode code 287 = .ok (.castore, 1) := by decide +kernel
theorem d0_3 : decode code 3 = .ok (.ifCond .eq 7, 3) := by decide +kernel
theorem d0_303 : decode code 303 = .ok (.invokestatic 28, 3) := by decide +kernel
theorem d0_306 : decode code 306 = .ok (.castore, 1) := by decide +kernel
theorem d0_322 : decode code 322 = .ok (.invokestatic 28, 3) := by decide +kernel
theorem d0_325 : decode code 325 = .ok (.castore, 1) := by decide +kernel
theorem d0_341 : decode code 341 = .ok (.invokestatic 28, 3) := by decide +kernel
theorem d0_344 : decode code 344 = .ok (.castore, 1) := by decide +kernel
theorem d0_360 : decode code 360 = .ok (.invokestatic 28, 3) := by decide +kernel
theorem d0_363 : decode code 363 = .ok (.castore, 1) := by decide +kernel
theorem d0_37 : decode code 37 = .ok (.ifCond .eq 8, 3) := by decide +kernel
theorem d0_379 : decode code 379 = .ok (.invokestatic 28, 3) := by decide +kernel
theorem d0_382 : decode code 382 = .ok (.castore, 1) := by decide +kernel
theorem d0_383 : decode code 383 = .ok (.new 12, 3) := by decide +kernel
theorem d0_389 : decode code 389 = .ok (.invokespecial 34, 3) := by decide +kernel
theorem d0_396 : decode code 396 = .ok (.invokestatic 37, 3) := by decide +kernel
theorem d0_403 : decode code 403 = .ok (.invokevirtual 23, 3) := by decide +kernel
theorem d0_411 : decode code 411 = .ok (.if_icmp .ne 113, 3) := by decide +kernel
theorem d0_421 : decode code 421 = .ok (.invokestatic 43, 3) := by decide +kernel
theorem d0_424 : decode code 424 = .ok (.ifCond .eq 100, 3) := by decide +kernel
theorem d0_434 : decode code 434 = .ok (.invokestatic 43, 3) := by decide +kernel
theorem d0_437 : decode code 437 = .ok (.ifCond .eq 87, 3) := by decide +kernel
theorem d0_447 : decode code 447 = .ok (.invokestatic 43, 3) := by decide +kernel
theorem d0_450 : decode code 450 = .ok (.ifCond .eq 74, 3) := by decide +kernel
theorem d0_460 : decode code 460 = .ok (.invokestatic 43, 3) := by decide +kernel
theorem d0_463 : decode code 463 = .ok (.ifCond .eq 61, 3) := by decide +kernel
theorem d0_473 : decode code 473 = .ok (.invokestatic 43, 3) := by decide +kernel
theorem d0_476 : decode code 476 = .ok (.ifCond .eq 48, 3) := by decide +kernel
theorem d0_486 : decode code 486 = .ok (.invokestatic 43, 3) := by decide +kernel
theorem d0_489 : decode code 489 = .ok (.ifCond .eq 35, 3) := by decide +kernel
theorem d0_50 : decode code 50 = .ok (.ldc 27, 2) := by decide +kernel
theorem d0_500 : decode code 500 = .ok (.invokestatic 43, 3) := by decide +kernel
theorem d0_503 : decode code 503 = .ok (.ifCond .eq 21, 3) := by decide +kernel
theorem d0_514 : decode code 514 = .ok (.invokestatic 43, 3) := by decide +kernel
theorem d0_517 : decode code 517 = .ok (.ifCond .eq 7, 3) := by decide +kernel
theorem d0_525 : decode code 525 = .ok (.ireturn, 1) := by decide +kernel
theorem d0_54 : decode code 54 = .ok (.irem, 1) := by decide +kernel
theorem d0_60 : decode code 60 = .ok (.ifCond .eq 8, 3) := by decide +kernel
theorem d0_73 : decode code 73 = .ok (.ldc 27, 2) := by decide +kernel
theorem d0_81 : decode code 81 = .ok (.irem, 1) := by decide +kernel
theorem d0_87 : decode code 87 = .ok (.newarray .char, 2) := by decide +kernel
theorem d10_2 : decode jdk_52_method_15_code 2 = .ok (.arraylength, 1) := by decide +kernel
theorem d10_8 : decode jdk_52_method_15_code 8 = .ok (.ireturn, 1) := by decide +kernel
theorem d11_1 : decode jdk_42_method_149_code 1 = .ok (.invokespecial 1, 3) := by decide +kernel
theorem d11_27 : decode jdk_42_method_149_code 27 = .ok (.getstatic 38, 3) := by decide +kernel
theorem d11_30 : decode jdk_42_method_149_code 30 = .ok (.ifCond .eq 28, 3) := by decide +kernel
theorem d11_36 : decode jdk_42_method_149_code 36 = .ok (.invokestatic 177, 3) := by decide +kernel
theorem d11_45 : decode jdk_42_method_149_code 45 = .ok (.invokestatic 47, 3) := by decide +kernel
theorem d11_48 : decode jdk_42_method_149_code 48 = .ok (.putfield 15, 3) := by decide +kernel
theorem d11_5 : decode jdk_42_method_149_code 5 = .ok (.ifCond .ne 22, 3) := by decide +kernel
theorem d11_54 : decode jdk_42_method_149_code 54 = .ok (.putfield 9, 3) := by decide +kernel
theorem d11_57 : decode jdk_42_method_149_code 57 = .ok (.return_, 1) := by decide +kernel
theorem d12_4 : decode jdk_42_method_3_code 4 = .ok (.arraylength, 1) := by decide +kernel
theorem d12_6 : decode jdk_42_method_3_code 6 = .ok (.invokespecial 27, 3) := by decide +kernel
theorem d12_9 : decode jdk_42_method_3_code 9 = .ok (.return_, 1) := by decide +kernel
theorem d13_10 : decode jdk_29_method_65_code 10 = .ok (.ireturn, 1) := by decide +kernel
theorem d13_2 : decode jdk_29_method_65_code 2 = .ok (.if_icmp .lt 7, 3) := by decide +kernel
theorem d14_10 : decode jdk_29_method_69_code 10 = .ok (.ireturn, 1) := by decide +kernel
theorem d14_2 : decode jdk_29_method_69_code 2 = .ok (.if_icmp .gt 7, 3) := by decide +kernel
theorem d15_1 : decode jdk_43_method_4_code 1 = .ok (.ifCond .lt 14, 3) := by decide +kernel
theorem d15_16 : decode jdk_43_method_4_code 16 = .ok (.ireturn, 1) := by decide +kernel
theorem d15_8 : decode jdk_43_method_4_code 8 = .ok (.if_icmp .gt 7, 3) := by decide +kernel
theorem d16_10 : decode jdk_43_method_23_code 10 = .ok (.if_icmp .ge 21, 3) := by decide +kernel
theorem d16_16 : decode jdk_43_method_23_code 16 = .ok (.baload, 1) := by decide +kernel
theorem d16_19 : decode jdk_43_method_23_code 19 = .ok (.if_icmp .ne 6, 3) := by decide +kernel
theorem d16_24 : decode jdk_43_method_23_code 24 = .ok (.ireturn, 1) := by decide +kernel
theorem d16_32 : decode jdk_43_method_23_code 32 = .ok (.ireturn, 1) := by decide +kernel
theorem d17_1 : decode jdk_43_method_22_code 1 = .ok (.invokestatic 88, 3) := by decide +kernel
theorem d17_11 : decode jdk_43_method_22_code 11 = .ok (.invokestatic 92, 3) := by decide +kernel
theorem d17_17 : decode jdk_43_method_22_code 17 = .ok (.arraylength, 1) := by decide +kernel
theorem d17_18 : decode jdk_43_method_22_code 18 = .ok (.invokestatic 38, 3) := by decide +kernel
theorem d17_24 : decode jdk_43_method_22_code 24 = .ok (.if_icmp .lt 5, 3) := by decide +kernel
theorem d17_28 : decode jdk_43_method_22_code 28 = .ok (.ireturn, 1) := by decide +kernel
theorem d17_33 : decode jdk_43_method_22_code 33 = .ok (.invokestatic 95, 3) := by decide +kernel
theorem d17_36 : decode jdk_43_method_22_code 36 = .ok (.ireturn, 1) := by decide +kernel
theorem d17_4 : decode jdk_43_method_22_code 4 = .ok (.ifCond .ne 5, 3) := by decide +kernel
theorem d18_1 : decode jdk_42_method_80_code 1 = .ok (.invokevirtual 492, 3) := by decide +kernel
theorem d18_14 : decode jdk_42_method_80_code 14 = .ok (.invokevirtual 505, 3) := by decide +kernel
theorem d18_17 : decode jdk_42_method_80_code 17 = .ok (.invokestatic 637, 3) := by decide +kernel
theorem d18_36 : decode jdk_42_method_80_code 36 = .ok (.ireturn, 1) := by decide +kernel
theorem d18_4 : decode jdk_42_method_80_code 4 = .ok (.ifCond .eq 19, 3) := by decide +kernel
theorem d18_8 : decode jdk_42_method_80_code 8 = .ok (.getfield 9, 3) := by decide +kernel
theorem d19_1 : decode jdk_41_method_12_code 1 = .ok (.ifCond .lt 13, 3) := by decide +kernel
theorem d19_11 : decode jdk_41_method_12_code 11 = .ok (.if_icmp .le 11, 3) := by decide +kernel
theorem d19_23 : decode jdk_41_method_12_code 23 = .ok (.ireturn, 1) := by decide +kernel
theorem d19_6 : decode jdk_41_method_12_code 6 = .ok (.if_icmp .gt 8, 3) := by decide +kernel
theorem d1_0 : decode jdk_42_method_152_code 0 = .ok (.getstatic 38, 3) := by decide +kernel
theorem d1_14 : decode jdk_42_method_152_code 14 = .ok (.ireturn, 1) := by decide +kernel
theorem d1_3 : decode jdk_42_method_152_code 3 = .ok (.ifCond .eq 10, 3) := by decide +kernel
theorem d1_7 : decode jdk_42_method_152_code 7 = .ok (.getfield 15, 3) := by decide +kernel
theorem d20_10 : decode jdk_42_method_158_code 10 = .ok (.return_, 1) := by decide +kernel
theorem d20_3 : decode jdk_42_method_158_code 3 = .ok (.getstatic 1053, 3) := by decide +kernel
theorem d20_6 : decode jdk_42_method_158_code 6 = .ok (.invokestatic 1062, 3) := by decide +kernel
theorem d21_2 : decode jdk_65_method_131_code 2 = .ok (.if_icmp .ge 35, 3) := by decide +kernel
theorem d21_37 : decode jdk_65_method_131_code 37 = .ok (.return_, 1) := by decide +kernel
theorem d22_10 : decode jdk_65_method_133_code 10 = .ok (.newarray .byte, 2) := by decide +kernel
theorem d22_2 : decode jdk_65_method_133_code 2 = .ok (.invokestatic 343, 3) := by decide +kernel
theorem d22_20 : decode jdk_65_method_133_code 20 = .ok (.arraylength, 1) := by decide +kernel
theorem d22_24 : decode jdk_65_method_133_code 24 = .ok (.invokestatic 304, 3) := by decide +kernel
theorem d22_27 : decode jdk_65_method_133_code 27 = .ok (.invokestatic 150, 3) := by decide +kernel
theorem d22_32 : decode jdk_65_method_133_code 32 = .ok (.areturn, 1) := by decide +kernel
theorem d23_1 : decode jdk_65_method_132_code 1 = .ok (.ifCond .ne 9, 3) := by decide +kernel
theorem d23_13 : decode jdk_65_method_132_code 13 = .ok (.invokestatic 339, 3) := by decide +kernel
theorem d23_16 : decode jdk_65_method_132_code 16 = .ok (.areturn, 1) := by decide +kernel
theorem d23_6 : decode jdk_65_method_132_code 6 = .ok (.arraylength, 1) := by decide +kernel
theorem d23_7 : decode jdk_65_method_132_code 7 = .ok (.if_icmp .eq 10, 3) := by decide +kernel
theorem d24_1 : decode jdk_42_method_151_code 1 = .ok (.invokespecial 1, 3) := by decide +kernel
theorem d24_11 : decode jdk_42_method_151_code 11 = .ok (.putfield 15, 3) := by decide +kernel
theorem d24_14 : decode jdk_42_method_151_code 14 = .ok (.return_, 1) := by decide +kernel
theorem d24_6 : decode jdk_42_method_151_code 6 = .ok (.putfield 9, 3) := by decide +kernel
theorem d25_1 : decode jdk_43_method_47_code 1 = .ok (.ifCond .ne 6, 3) := by decide +kernel
theorem d25_16 : decode jdk_43_method_47_code 16 = .ok (.invokestatic 232, 3) := by decide +kernel
theorem d25_20 : decode jdk_43_method_47_code 20 = .ok (.invokespecial 112, 3) := by decide +kernel
theorem d25_23 : decode jdk_43_method_47_code 23 = .ok (.areturn, 1) := by decide +kernel
theorem d25_4 : decode jdk_43_method_47_code 4 = .ok (.ldc 151, 2) := by decide +kernel
theorem d25_6 : decode jdk_43_method_47_code 6 = .ok (.areturn, 1) := by decide +kernel
theorem d25_7 : decode jdk_43_method_47_code 7 = .ok (.new 1, 3) := by decide +kernel
theorem d26_1 : decode jdk_42_method_92_code 1 = .ok (.invokevirtual 505, 3) := by decide +kernel
theorem d26_12 : decode jdk_42_method_92_code 12 = .ok (.ifCond .ne 10, 3) := by decide +kernel
theorem d26_17 : decode jdk_42_method_92_code 17 = .ok (.if_icmp .ne 5, 3) := by decide +kernel
theorem d26_21 : decode jdk_42_method_92_code 21 = .ok (.areturn, 1) := by decide +kernel
theorem d26_28 : decode jdk_42_method_92_code 28 = .ok (.invokevirtual 492, 3) := by decide +kernel
theorem d26_31 : decode jdk_42_method_92_code 31 = .ok (.ifCond .eq 16, 3) := by decide +kernel
theorem d26_35 : decode jdk_42_method_92_code 35 = .ok (.getfield 9, 3) := by decide +kernel
theorem d26_41 : decode jdk_42_method_92_code 41 = .ok (.invokestatic 685, 3) := by decide +kernel
theorem d26_57 : decode jdk_42_method_92_code 57 = .ok (.areturn, 1) := by decide +kernel
theorem d26_8 : decode jdk_42_method_92_code 8 = .ok (.invokestatic 521, 3) := by decide +kernel
theorem d27_15 : decode method_2_code 15 = .ok (.if_icmp .ge 10, 3) := by decide +kernel
theorem d27_18 : decode method_2_code 18 = .ok (.ldc 9, 2) := by decide +kernel
theorem d27_21 : decode method_2_code 21 = .ok (.invokevirtual 11, 3) := by decide +kernel
theorem d27_24 : decode method_2_code 24 = .ok (.ireturn, 1) := by decide +kernel
theorem d27_27 : decode method_2_code 27 = .ok (.if_icmp .ge 16, 3) := by decide +kernel
theorem d27_32 : decode method_2_code 32 = .ok (.if_icmp .ne 8, 3) := by decide +kernel
theorem d27_42 : decode method_2_code 42 = .ok (.ireturn, 1) := by decide +kernel
theorem d27_45 : decode method_2_code 45 = .ok (.if_icmp .ge 11, 3) := by decide +kernel
theorem d27_48 : decode method_2_code 48 = .ok (.ldc 17, 2) := by decide +kernel
theorem d27_52 : decode method_2_code 52 = .ok (.invokevirtual 11, 3) := by decide +kernel
theorem d27_55 : decode method_2_code 55 = .ok (.ireturn, 1) := by decide +kernel
theorem d27_58 : decode method_2_code 58 = .ok (.if_icmp .ne 6, 3) := by decide +kernel
theorem d27_6 : decode method_2_code 6 = .ok (.ldc2_w 7, 3) := by decide +kernel
theorem d27_63 : decode method_2_code 63 = .ok (.ireturn, 1) := by decide +kernel
theorem d27_67 : decode method_2_code 67 = .ok (.if_icmp .ge 11, 3) := by decide +kernel
theorem d27_70 : decode method_2_code 70 = .ok (.ldc 19, 2) := by decide +kernel
theorem d27_74 : decode method_2_code 74 = .ok (.invokevirtual 11, 3) := by decide +kernel
theorem d27_77 : decode method_2_code 77 = .ok (.ireturn, 1) := by decide +kernel
theorem d27_81 : decode method_2_code 81 = .ok (.if_icmp .ne 6, 3) := by decide +kernel
theorem d27_86 : decode method_2_code 86 = .ok (.ireturn, 1) := by decide +kernel
theorem d27_87 : decode method_2_code 87 = .ok (.ldc 21, 2) := by decide +kernel
theorem d27_91 : decode method_2_code 91 = .ok (.invokevirtual 11, 3) := by decide +kernel
theorem d27_94 : decode method_2_code 94 = .ok (.ireturn, 1) := by decide +kernel
theorem d28_107 : decode jdk_43_method_25_code 107 = .ok (.if_icmp .ne 6, 3) := by decide +kernel
theorem d28_112 : decode jdk_43_method_25_code 112 = .ok (.ireturn, 1) := by decide +kernel
theorem d28_18 : decode jdk_43_method_25_code 18 = .ok (.if_icmp .gt 101, 3) := by decide +kernel
theorem d28_2 : decode jdk_43_method_25_code 2 = .ok (.baload, 1) := by decide +kernel
theorem d28_24 : decode jdk_43_method_25_code 24 = .ok (.baload, 1) := by decide +kernel
theorem d28_27 : decode jdk_43_method_25_code 27 = .ok (.if_icmp .eq 25, 3) := by decide +kernel
theorem d28_37 : decode jdk_43_method_25_code 37 = .ok (.if_icmp .gt 15, 3) := by decide +kernel
theorem d28_43 : decode jdk_43_method_25_code 43 = .ok (.baload, 1) := by decide +kernel
theorem d28_46 : decode jdk_43_method_25_code 46 = .ok (.if_icmp .eq 6, 3) := by decide +kernel
theorem d28_56 : decode jdk_43_method_25_code 56 = .ok (.if_icmp .gt 57, 3) := by decide +kernel
theorem d28_80 : decode jdk_43_method_25_code 80 = .ok (.if_icmp .ge 23, 3) := by decide +kernel
theorem d28_86 : decode jdk_43_method_25_code 86 = .ok (.baload, 1) := by decide +kernel
theorem d28_90 : decode jdk_43_method_25_code 90 = .ok (.baload, 1) := by decide +kernel
theorem d28_91 : decode jdk_43_method_25_code 91 = .ok (.if_icmp .ne 12, 3) := by decide +kernel
theorem d29_1 : decode jdk_43_method_24_code 1 = .ok (.arraylength, 1) := by decide +kernel
theorem d29_16 : decode jdk_43_method_24_code 16 = .ok (.arraylength, 1) := by decide +kernel
theorem d29_19 : decode jdk_43_method_24_code 19 = .ok (.arraylength, 1) := by decide +kernel
theorem d29_2 : decode jdk_43_method_24_code 2 = .ok (.ifCond .ne 5, 3) := by decide +kernel
theorem d29_21 : decode jdk_43_method_24_code 21 = .ok (.invokestatic 99, 3) := by decide +kernel
theorem d29_24 : decode jdk_43_method_24_code 24 = .ok (.ireturn, 1) := by decide +kernel
theorem d29_8 : decode jdk_43_method_24_code 8 = .ok (.arraylength, 1) := by decide +kernel
theorem d29_9 : decode jdk_43_method_24_code 9 = .ok (.ifCond .ne 5, 3) := by decide +kernel
theorem d2_1 : decode jdk_42_method_54_code 1 = .ok (.getfield 9, 3) := by decide +kernel
theorem d2_10 : decode jdk_42_method_54_code 10 = .ok (.ireturn, 1) := by decide +kernel
theorem d2_4 : decode jdk_42_method_54_code 4 = .ok (.arraylength, 1) := by decide +kernel
theorem d2_6 : decode jdk_42_method_54_code 6 = .ok (.invokevirtual 335, 3) := by decide +kernel
theorem d30_1 : decode jdk_42_method_84_code 1 = .ok (.invokevirtual 335, 3) := by decide +kernel
theorem d30_10 : decode jdk_42_method_84_code 10 = .ok (.if_icmp .ne 36, 3) := by decide +kernel
theorem d30_14 : decode jdk_42_method_84_code 14 = .ok (.invokevirtual 492, 3) := by decide +kernel
theorem d30_17 : decode jdk_42_method_84_code 17 = .ok (.ifCond .eq 17, 3) := by decide +kernel
theorem d30_21 : decode jdk_42_method_84_code 21 = .ok (.getfield 9, 3) := by decide +kernel
theorem d30_25 : decode jdk_42_method_84_code 25 = .ok (.getfield 9, 3) := by decide +kernel
theorem d30_28 : decode jdk_42_method_84_code 28 = .ok (.invokestatic 647, 3) := by decide +kernel
theorem d30_45 : decode jdk_42_method_84_code 45 = .ok (.ireturn, 1) := by decide +kernel
theorem d30_7 : decode jdk_42_method_84_code 7 = .ok (.invokevirtual 335, 3) := by decide +kernel
theorem d31_11 : decode prog_15_method_6_code 11 = .ok (.invokevirtual 76, 3) := by decide +kernel
theorem d31_15 : decode prog_15_method_6_code 15 = .ok (.invokevirtual 136, 3) := by decide +kernel
theorem d31_20 : decode prog_15_method_6_code 20 = .ok (.ifCond .ge 10, 3) := by decide +kernel
theorem d31_24 : decode prog_15_method_6_code 24 = .ok (.invokevirtual 76, 3) := by decide +kernel
theorem d31_31 : decode prog_15_method_6_code 31 = .ok (.ireturn, 1) := by decide +kernel
theorem d31_4 : decode prog_15_method_6_code 4 = .ok (.ldc 113, 2) := by decide +kernel
theorem d31_6 : decode prog_15_method_6_code 6 = .ok (.invokevirtual 139, 3) := by decide +kernel
theorem d31_9 : decode prog_15_method_6_code 9 = .ok (.ldc 113, 2) := by decide +kernel
theorem d32_1 : decode prog_15_method_4_code 1 = .ok (.invokestatic 133, 3) := by decide +kernel
theorem d32_16 : decode prog_15_method_4_code 16 = .ok (.ifCond .ge 10, 3) := by decide +kernel
theorem d32_20 : decode prog_15_method_4_code 20 = .ok (.invokevirtual 76, 3) := by decide +kernel
theorem d32_27 : decode prog_15_method_4_code 27 = .ok (.invokevirtual 68, 3) := by decide +kernel
theorem d32_30 : decode prog_15_method_4_code 30 = .ok (.areturn, 1) := by decide +kernel
theorem d32_9 : decode prog_15_method_4_code 9 = .ok (.invokevirtual 136, 3) := by decide +kernel
theorem d33_13 : decode method_3_code 13 = .ok (.if_icmp .ge 20, 3) := by decide +kernel
theorem d33_18 : decode method_3_code 18 = .ok (.invokevirtual 11, 3) := by decide +kernel
theorem d33_2 : decode method_3_code 2 = .ok (.invokevirtual 23, 3) := by decide +kernel
theorem d33_25 : decode method_3_code 25 = .ok (.caload, 1) := by decide +kernel
theorem d33_26 : decode method_3_code 26 = .ok (.if_icmp .ne 7, 3) := by decide +kernel
theorem d33_34 : decode method_3_code 34 = .ok (.ireturn, 1) := by decide +kernel
theorem d33_5 : decode method_3_code 5 = .ok (.if_icmp .ge 24, 3) := by decide +kernel
theorem d3_0 : decode jdk_42_method_154_code 0 = .ok (.getstatic 38, 3) := by decide +kernel
theorem d3_10 : decode jdk_42_method_154_code 10 = .ok (.ifCond .ne 7, 3) := by decide +kernel
theorem d3_18 : decode jdk_42_method_154_code 18 = .ok (.ireturn, 1) := by decide +kernel
theorem d3_3 : decode jdk_42_method_154_code 3 = .ok (.ifCond .eq 14, 3) := by decide +kernel
theorem d3_7 : decode jdk_42_method_154_code 7 = .ok (.getfield 15, 3) := by decide +kernel
theorem d4_1 : decode jdk_41_method_11_code 1 = .ok (.ifCond .lt 8, 3) := by decide +kernel
theorem d4_17 : decode jdk_41_method_11_code 17 = .ok (.ireturn, 1) := by decide +kernel
theorem d4_6 : decode jdk_41_method_11_code 6 = .ok (.if_icmp .lt 10, 3) := by decide +kernel
theorem d5_2 : decode jdk_42_method_155_code 2 = .ok (.getstatic 1053, 3) := by decide +kernel
theorem d5_5 : decode jdk_42_method_155_code 5 = .ok (.invokestatic 1059, 3) := by decide +kernel
theorem d5_9 : decode jdk_42_method_155_code 9 = .ok (.return_, 1) := by decide +kernel
theorem d6_14 : decode jdk_43_method_2_code 14 = .ok (.ireturn, 1) := by decide +kernel
theorem d6_2 : decode jdk_43_method_2_code 2 = .ok (.arraylength, 1) := by decide +kernel
theorem d6_3 : decode jdk_43_method_2_code 3 = .ok (.invokestatic 9, 3) := by decide +kernel
theorem d6_8 : decode jdk_43_method_2_code 8 = .ok (.baload, 1) := by decide +kernel
theorem d7_1 : decode jdk_42_method_56_code 1 = .ok (.invokevirtual 492, 3) := by decide +kernel
theorem d7_12 : decode jdk_42_method_56_code 12 = .ok (.invokestatic 495, 3) := by decide +kernel
theorem d7_15 : decode jdk_42_method_56_code 15 = .ok (.ireturn, 1) := by decide +kernel
theorem d7_4 : decode jdk_42_method_56_code 4 = .ok (.ifCond .eq 12, 3) := by decide +kernel
theorem d7_8 : decode jdk_42_method_56_code 8 = .ok (.getfield 9, 3) := by decide +kernel
theorem d8_12 : decode jdk_52_method_21_code 12 = .ok (.caload, 1) := by decide +kernel
theorem d8_20 : decode jdk_52_method_21_code 20 = .ok (.if_icmp .le 6, 3) := by decide +kernel
theorem d8_31 : decode jdk_52_method_21_code 31 = .ok (.bastore, 1) := by decide +kernel
theorem d8_46 : decode jdk_52_method_21_code 46 = .ok (.ireturn, 1) := by decide +kernel
theorem d8_7 : decode jdk_52_method_21_code 7 = .ok (.if_icmp .ge 37, 3) := by decide +kernel
theorem d9_1 : decode jdk_52_method_16_code 1 = .ok (.newarray .byte, 2) := by decide +kernel
theorem d9_17 : decode jdk_52_method_16_code 17 = .ok (.if_icmp .eq 40, 3) := by decide +kernel
theorem d9_58 : decode jdk_52_method_16_code 58 = .ok (.areturn, 1) := by decide +kernel
theorem d9_9 : decode jdk_52_method_16_code 9 = .ok (.invokestatic 115, 3) := by decide +kernel
end Words
theorem str_W {κ : Cx} (hw : Ws κ) : StrW κ := by
  intro a ha
  simp only [Bundle.stringAtoms, Bundle.sN, List.mem_cons, List.not_mem_nil, or_false] at ha
  rcases ha with rfl | rfl | rfl | rfl | rfl | rfl | rfl
  · exact (w9 hw)
  · exact (w10 hw)
  · exact (w11 hw)
  · exact (w12 hw)
  · exact (w13 hw)
  · exact (w14 hw)
  · exact (w15 hw)
theorem cls_Str {κ : Cx} (hw : Ws κ) : Cls κ "java/lang/String" [("java/lang/String", "value", "[B", .null), ("java/lang/String", "coder", "B", .int 0)] := by
  have h0 : Laid (kZ κ) (ka κ) "java/lang/String" "java/lang/String" "value" "[B" := (Or.inr (w12 hw))
  have h1 : Laid (kZ κ) (ka κ) "java/lang/String" "java/lang/String" "coder" "B" := (Or.inr (w13 hw))
  have n0_1 := slot_ne h0 h1 (by decide) (t := .array (.byte)) (t' := .byte) (by decide) (by decide)
  refine ⟨fun f hf => ?_, by simpa [fslot] using n0_1⟩
  simp only [List.mem_cons, List.not_mem_nil, or_false] at hf
  rcases hf with rfl | rfl
  · exact ⟨h0, .array (.byte), by decide, rfl⟩
  · exact ⟨h1, .byte, by decide, rfl⟩
theorem c_coder {κ : Cx} (C : Ok κ) (hw : Ws κ) (hs : StrS κ) {a b : Addr} {yc : MethodName} {pcc : Nat} {Lc : List Slot} {Sc : List Value} {F : List Frame} {l : List Chunk} {k n : Nat} (Cr : Caller κ yc pcc 3) (ho : strO a b 0 ∈ l) (K : WP κ yc (pcc + 3) Lc (.int 0 :: Sc) F (l) k n) :
    WP κ y1 0 [.val (.ref a)] [] (fr κ yc pcc Lc Sc :: F) (l) k n := by
  obtain ⟨⟨cz, hcs, scs⟩, -⟩ := hs
  refine wp_getstatic C (M1 hw) d1_0 (w26 hw) (Or.inl rfl) scs ?_
  refine wp_iff C (M1 hw) d1_3 (XT.i0_eq_f hcs) ?_
  refine wp_seg C (M1 hw) [(.aload_n 0, 1)] (by decide +kernel) (pc' := 7) (L' := [.val (.ref a)]) (S' := [.ref a]) rfl ?_
  refine wp_getfield C (M1 hw) d1_7 (w27 hw) (Or.inl rfl) (a := a) (mu := false) (Cl := "java/lang/String") (fs := [("java/lang/String", "value", "[B", .ref b), ("java/lang/String", "coder", "B", .int 0)]) ho (List.mem_of_getElem? (i := 1) rfl) ?_
  refine wp_seg C (M1 hw) [(.goto 4, 3)] (by decide +kernel) (pc' := 14) (L' := [.val (.ref a)]) (S' := [.int 0]) rfl ?_
  exact wp_iret C (M1 hw) d1_14 rfl (t := .byte) (by decide) rfl Cr K
theorem c_len {κ : Cx} (C : Ok κ) (hw : Ws κ) (hs : StrS κ) {a : Addr} {us : List UInt8} {yc : MethodName} {pcc : Nat} {Lc : List Slot} {Sc : List Value} {F : List Frame} {l : List Chunk} {k n : Nat} (Cr : Caller κ yc pcc 3) (hR : Rm κ (fr κ yc pcc Lc Sc :: F) 2 25) (st : Str l a us) (K : WP κ yc (pcc + 3) Lc (.int (Int32.ofNat us.length) :: Sc) F (l) k n) :
    WP κ y2 0 [.val (.ref a)] [] (fr κ yc pcc Lc Sc :: F) (l) k n := by
  obtain ⟨b, ho, hb⟩ := st
  refine wp_seg C (M2 hw) [(.aload_n 0, 1)] (by decide +kernel) (pc' := 1) (L' := [.val (.ref a)]) (S' := [.ref a]) rfl ?_
  refine wp_getfield C (M2 hw) d2_1 (w28 hw) (Or.inl rfl) (a := a) (mu := false) (Cl := "java/lang/String") (fs := [("java/lang/String", "value", "[B", .ref b), ("java/lang/String", "coder", "B", .int 0)]) ho (List.mem_of_getElem? (i := 0) rfl) ?_
  refine wp_arraylength C (M2 hw) d2_4 (a := b) hb (z := (Int32.ofNat us.length)) (by simp) ?_
  refine wp_seg C (M2 hw) [(.aload_n 0, 1)] (by decide +kernel) (pc' := 6) (L' := [.val (.ref a)]) (S' := [.ref a, .int (Int32.ofNat us.length)]) rfl ?_
  refine wp_invokevirtual C (M2 hw) d2_6 (M1 hw) (Cl := "java/lang/String") (w78 hw) (w79 hw) (w81 hw) (w80 hw) (Or.inl ⟨_, (w81 hw)⟩) (by decide) (b := a) ho (S' := [.int (Int32.ofNat us.length)]) [] (lenOf pd1 rfl) rfl (L' := [.val (.ref a)]) rfl rfl (hR.push (d' := 1) (w' := 12) (Nat.le_of_ble_eq_true rfl) (Nat.le_of_ble_eq_true rfl)) ?_
  refine c_coder C hw hs (Meth.caller (M2 hw) d2_6) ho ?_
  refine wp_seg C (M2 hw) [(.ishr, 1)] (by decide +kernel) (pc' := 10) (L' := [.val (.ref a)]) (S' := [.int ((Int32.ofNat us.length) >>> ((0 : Int32) &&& 31))]) rfl ?_
  rw [shr0]
  exact wp_iret C (M2 hw) d2_10 rfl (t := .int) (by decide) rfl Cr K
theorem c_isl {κ : Cx} (C : Ok κ) (hw : Ws κ) (hs : StrS κ) {a b : Addr} {yc : MethodName} {pcc : Nat} {Lc : List Slot} {Sc : List Value} {F : List Frame} {l : List Chunk} {k n : Nat} (Cr : Caller κ yc pcc 3) (ho : strO a b 0 ∈ l) (K : WP κ yc (pcc + 3) Lc (.int 1 :: Sc) F (l) k n) :
    WP κ y3 0 [.val (.ref a)] [] (fr κ yc pcc Lc Sc :: F) (l) k n := by
  obtain ⟨⟨cz, hcs, scs⟩, -⟩ := hs
  refine wp_getstatic C (M3 hw) d3_0 (w26 hw) (Or.inl rfl) scs ?_
  refine wp_iff C (M3 hw) d3_3 (XT.i0_eq_f hcs) ?_
  refine wp_seg C (M3 hw) [(.aload_n 0, 1)] (by decide +kernel) (pc' := 7) (L' := [.val (.ref a)]) (S' := [.ref a]) rfl ?_
  refine wp_getfield C (M3 hw) d3_7 (w27 hw) (Or.inl rfl) (a := a) (mu := false) (Cl := "java/lang/String") (fs := [("java/lang/String", "value", "[B", .ref b), ("java/lang/String", "coder", "B", .int 0)]) ho (List.mem_of_getElem? (i := 1) rfl) ?_
  refine wp_iff C (M3 hw) d3_10 (XT.i0_ne_f (by decide)) ?_
  refine wp_seg C (M3 hw) [(.iconst 1, 1), (.goto 4, 3)] (by decide +kernel) (pc' := 18) (L' := [.val (.ref a)]) (S' := [.int 1]) rfl ?_
  exact wp_iret C (M3 hw) d3_18 rfl (t := .boolean) (by decide) rfl Cr K
theorem c_pci {κ : Cx} (C : Ok κ) (hw : Ws κ) {i m : Int32} {fv : Value} (hfv : fv.isRef = true) (h0 : ¬ i < 0) (h1 : i < m) {yc : MethodName} {pcc : Nat} {Lc : List Slot} {Sc : List Value} {F : List Frame} {l : List Chunk} {k n : Nat} (Cr : Caller κ yc pcc 3)  (K : WP κ yc (pcc + 3) Lc (.int i :: Sc) F (l) k n) :
    WP κ y4 0 [.val (.int i), .val (.int m), .val fv] [] (fr κ yc pcc Lc Sc :: F) (l) k n := by
  rcases ref_cases hfv with rfl | ⟨r, rfl⟩
  · refine wp_seg C (M4 hw) [(.iload_n 0, 1)] (by decide +kernel) (pc' := 1) (L' := [.val (.int i), .val (.int m), .val (.null)]) (S' := [.int i]) rfl ?_
    refine wp_iff C (M4 hw) d4_1 (XT.i0_lt_f h0) ?_
    refine wp_seg C (M4 hw) [(.iload_n 0, 1), (.iload_n 1, 1)] (by decide +kernel) (pc' := 6) (L' := [.val (.int i), .val (.int m), .val (.null)]) (S' := [.int m, .int i]) rfl ?_
    refine wp_ict C (M4 hw) d4_6 (XT.ii_lt_t h1) (pc' := 16) (by decide) ?_
    refine wp_seg C (M4 hw) [(.iload_n 0, 1)] (by decide +kernel) (pc' := 17) (L' := [.val (.int i), .val (.int m), .val (.null)]) (S' := [.int i]) rfl ?_
    exact wp_iret C (M4 hw) d4_17 rfl (t := .int) (by decide) rfl Cr K
  · refine wp_seg C (M4 hw) [(.iload_n 0, 1)] (by decide +kernel) (pc' := 1) (L' := [.val (.int i), .val (.int m), .val (.ref r)]) (S' := [.int i]) rfl ?_
    refine wp_iff C (M4 hw) d4_1 (XT.i0_lt_f h0) ?_
    refine wp_seg C (M4 hw) [(.iload_n 0, 1), (.iload_n 1, 1)] (by decide +kernel) (pc' := 6) (L' := [.val (.int i), .val (.int m), .val (.ref r)]) (S' := [.int m, .int i]) rfl ?_
    refine wp_ict C (M4 hw) d4_6 (XT.ii_lt_t h1) (pc' := 16) (by decide) ?_
    refine wp_seg C (M4 hw) [(.iload_n 0, 1)] (by decide +kernel) (pc' := 17) (L' := [.val (.int i), .val (.int m), .val (.ref r)]) (S' := [.int i]) rfl ?_
    exact wp_iret C (M4 hw) d4_17 rfl (t := .int) (by decide) rfl Cr K
theorem c_sci {κ : Cx} (C : Ok κ) (hw : Ws κ) (hs : StrS κ) {i m : Int32} (h0 : ¬ i < 0) (h1 : i < m) {yc : MethodName} {pcc : Nat} {Lc : List Slot} {Sc : List Value} {F : List Frame} {l : List Chunk} {k n : Nat} (Cr : Caller κ yc pcc 3) (hR : Rm κ (fr κ yc pcc Lc Sc :: F) 2 27)  (K : WP κ yc (pcc + 3) Lc Sc F (l) k n) :
    WP κ y5 0 [.val (.int i), .val (.int m)] [] (fr κ yc pcc Lc Sc :: F) (l) k n := by
  obtain ⟨⟨cz, hcs, scs⟩, fv, hfv, sfv⟩ := hs
  have hfv2 := hfv
  rcases ref_cases hfv with rfl | ⟨r, rfl⟩
  · refine wp_seg C (M5 hw) [(.iload_n 0, 1), (.iload_n 1, 1)] (by decide +kernel) (pc' := 2) (L' := [.val (.int i), .val (.int m)]) (S' := [.int m, .int i]) rfl ?_
    refine wp_getstatic C (M5 hw) d5_2 (w36 hw) (Or.inl rfl) sfv ?_
    refine wp_invokestatic C (M5 hw) d5_5 (M4 hw) (w38 hw) (w39 hw) (w37 hw) (by decide) (S' := []) [.int i, .int m, .null] (lenOf pd4 rfl) rfl (L' := [.val (.int i), .val (.int m), .val (.null)]) rfl rfl (hR.push (d' := 1) (w' := 14) (Nat.le_of_ble_eq_true rfl) (Nat.le_of_ble_eq_true rfl)) ?_
    refine c_pci C hw hfv2 h0 h1 (Meth.caller (M5 hw) d5_5)  ?_
    refine wp_seg C (M5 hw) [(.pop, 1)] (by decide +kernel) (pc' := 9) (L' := [.val (.int i), .val (.int m)]) (S' := []) rfl ?_
    exact wp_vret C (M5 hw) d5_9 Cr K
  · refine wp_seg C (M5 hw) [(.iload_n 0, 1), (.iload_n 1, 1)] (by decide +kernel) (pc' := 2) (L' := [.val (.int i), .val (.int m)]) (S' := [.int m, .int i]) rfl ?_
    refine wp_getstatic C (M5 hw) d5_2 (w36 hw) (Or.inl rfl) sfv ?_
    refine wp_invokestatic C (M5 hw) d5_5 (M4 hw) (w38 hw) (w39 hw) (w37 hw) (by decide) (S' := []) [.int i, .int m, .ref r] (lenOf pd4 rfl) rfl (L' := [.val (.int i), .val (.int m), .val (.ref r)]) rfl rfl (hR.push (d' := 1) (w' := 14) (Nat.le_of_ble_eq_true rfl) (Nat.le_of_ble_eq_true rfl)) ?_
    refine c_pci C hw hfv2 h0 h1 (Meth.caller (M5 hw) d5_5)  ?_
    refine wp_seg C (M5 hw) [(.pop, 1)] (by decide +kernel) (pc' := 9) (L' := [.val (.int i), .val (.int m)]) (S' := []) rfl ?_
    exact wp_vret C (M5 hw) d5_9 Cr K
theorem c_lch {κ : Cx} (C : Ok κ) (hw : Ws κ) (hs : StrS κ) {b : Addr} {us : List UInt8} {i : Nat} (hl : us.length < 2 ^ 31) (hi : i < us.length) {yc : MethodName} {pcc : Nat} {Lc : List Slot} {Sc : List Value} {F : List Frame} {l : List Chunk} {k n : Nat} (Cr : Caller κ yc pcc 3) (hR : Rm κ (fr κ yc pcc Lc Sc :: F) 3 40) (hb : strB b us ∈ l) (K : WP κ yc (pcc + 3) Lc (.int (ch8 (us.getD i 0)) :: Sc) F (l) k n) :
    WP κ y6 0 [.val (.ref b), .val (.int (Int32.ofNat i))] [] (fr κ yc pcc Lc Sc :: F) (l) k n := by
  refine wp_seg C (M6 hw) [(.iload_n 1, 1), (.aload_n 0, 1)] (by decide +kernel) (pc' := 2) (L' := [.val (.ref b), .val (.int (Int32.ofNat i))]) (S' := [.ref b, .int (Int32.ofNat i)]) rfl ?_
  refine wp_arraylength C (M6 hw) d6_2 (a := b) hb (z := (Int32.ofNat us.length)) (by simp) ?_
  refine wp_invokestatic C (M6 hw) d6_3 (M5 hw) (w33 hw) (w34 hw) (w9 hw) (by decide) (S' := []) [.int (Int32.ofNat i), .int (Int32.ofNat us.length)] (lenOf pd5 rfl) rfl (L' := [.val (.int (Int32.ofNat i)), .val (.int (Int32.ofNat us.length))]) rfl rfl (hR.push (d' := 1) (w' := 13) (Nat.le_of_ble_eq_true rfl) (Nat.le_of_ble_eq_true rfl)) ?_
  refine c_sci C hw hs (nn32 (by omega)) ((lt32 (by omega) hl).mpr hi) (Meth.caller (M6 hw) d6_3) (hR.push (d' := 2) (w' := 27) (Nat.le_of_ble_eq_true rfl) (Nat.le_of_ble_eq_true rfl))  ?_
  refine wp_seg C (M6 hw) [(.aload_n 0, 1), (.iload_n 1, 1)] (by decide +kernel) (pc' := 8) (L' := [.val (.ref b), .val (.int (Int32.ofNat i))]) (S' := [.int (Int32.ofNat i), .ref b]) rfl ?_
  refine wp_baload C (M6 hw) d6_8 (a := b) hb (i := i) (Ix32 (by omega)) (v := .int ((us.getD i 0).toInt8.toInt32)) (getD_map hi) ?_
  refine wp_seg C (M6 hw) [(.sipush 255, 3), (.iand, 1)] (by decide +kernel) (pc' := 13) (L' := [.val (.ref b), .val (.int (Int32.ofNat i))]) (S' := [.int (((us.getD i 0).toInt8.toInt32) &&& (255 : Int32))]) rfl ?_
  rw [ch8_mask]
  refine wp_seg C (M6 hw) [(.i2c, 1)] (by decide +kernel) (pc' := 14) (L' := [.val (.ref b), .val (.int (Int32.ofNat i))]) (S' := [.int (i2c (ch8 (us.getD i 0)))]) rfl ?_
  rw [ch8_i2c]
  exact wp_iret C (M6 hw) d6_14 rfl (t := .char) (by decide) (ch8_narrow _) Cr K
theorem c_chat {κ : Cx} (C : Ok κ) (hw : Ws κ) (hs : StrS κ) {a : Addr} {us : List UInt8} {i : Nat} (hl : us.length < 2 ^ 31) (hi : i < us.length) {yc : MethodName} {pcc : Nat} {Lc : List Slot} {Sc : List Value} {F : List Frame} {l : List Chunk} {k n : Nat} (Cr : Caller κ yc pcc 3) (hR : Rm κ (fr κ yc pcc Lc Sc :: F) 4 53) (st : Str l a us) (K : WP κ yc (pcc + 3) Lc (.int (ch8 (us.getD i 0)) :: Sc) F (l) k n) :
    WP κ y7 0 [.val (.ref a), .val (.int (Int32.ofNat i))] [] (fr κ yc pcc Lc Sc :: F) (l) k n := by
  obtain ⟨b, ho, hb⟩ := st
  refine wp_seg C (M7 hw) [(.aload_n 0, 1)] (by decide +kernel) (pc' := 1) (L' := [.val (.ref a), .val (.int (Int32.ofNat i))]) (S' := [.ref a]) rfl ?_
  refine wp_invokevirtual C (M7 hw) d7_1 (M3 hw) (Cl := "java/lang/String") (w21 hw) (w22 hw) (w24 hw) (w23 hw) (Or.inl ⟨_, (w24 hw)⟩) (by decide) (b := a) ho (S' := []) [] (lenOf pd3 rfl) rfl (L' := [.val (.ref a)]) rfl rfl (hR.push (d' := 1) (w' := 12) (Nat.le_of_ble_eq_true rfl) (Nat.le_of_ble_eq_true rfl)) ?_
  refine c_isl C hw hs (Meth.caller (M7 hw) d7_1) ho ?_
  refine wp_iff C (M7 hw) d7_4 (XT.i0_eq_f (by decide)) ?_
  refine wp_seg C (M7 hw) [(.aload_n 0, 1)] (by decide +kernel) (pc' := 8) (L' := [.val (.ref a), .val (.int (Int32.ofNat i))]) (S' := [.ref a]) rfl ?_
  refine wp_getfield C (M7 hw) d7_8 (w28 hw) (Or.inl rfl) (a := a) (mu := false) (Cl := "java/lang/String") (fs := [("java/lang/String", "value", "[B", .ref b), ("java/lang/String", "coder", "B", .int 0)]) ho (List.mem_of_getElem? (i := 0) rfl) ?_
  refine wp_seg C (M7 hw) [(.iload_n 1, 1)] (by decide +kernel) (pc' := 12) (L' := [.val (.ref a), .val (.int (Int32.ofNat i))]) (S' := [.int (Int32.ofNat i), .ref b]) rfl ?_
  refine wp_invokestatic C (M7 hw) d7_12 (M6 hw) (w29 hw) (w30 hw) (w31 hw) (by decide) (S' := []) [.ref b, .int (Int32.ofNat i)] (lenOf pd6 rfl) rfl (L' := [.val (.ref b), .val (.int (Int32.ofNat i))]) rfl rfl (hR.push (d' := 1) (w' := 13) (Nat.le_of_ble_eq_true rfl) (Nat.le_of_ble_eq_true rfl)) ?_
  refine c_lch C hw hs hl hi (Meth.caller (M7 hw) d7_12) (hR.push (d' := 3) (w' := 40) (Nat.le_of_ble_eq_true rfl) (Nat.le_of_ble_eq_true rfl)) hb ?_
  exact wp_iret C (M7 hw) d7_15 rfl (t := .char) (by decide) (ch8_narrow _) Cr K
theorem h_cmp5 {κ : Cx} (C : Ok κ) (hw : Ws κ) {c b : Addr} {mc : Bool} {us : List UInt8} (hl : us.length < 2 ^ 31) {yc : MethodName} {pcc : Nat} {Lc : List Slot} {Sc : List Value} {F : List Frame} {l : List Chunk} {k n : Nat} (Cr : Caller κ yc pcc 3) (hm : (c, mc, .inr (.char, us.map chv)) ∈ l) (K : WP κ yc (pcc + 3) Lc (.int (Int32.ofNat us.length) :: Sc) F ((b, true, .inr (.byte, us.map byv)) :: l) k n) : ∀ (d i : Nat) (z : Int32), i + d = us.length →
    WP κ y8 3 [.val (.ref c), .val (.int (Int32.ofNat i)), .val (.ref b), .val (.int (Int32.ofNat i)), .val (.int (Int32.ofNat us.length)), .val (.int (Int32.ofNat i)), .val (.int z)] [] (fr κ yc pcc Lc Sc :: F) ((b, true, .inr (.byte, part byv (.int 0) us i)) :: l) k n := by
  intro d
  induction d with
  | zero =>
    intro i z hi
    have e : i = us.length := by omega
    subst e
    refine wp_seg C (M8 hw) [(.iload 5, 2), (.iload 4, 2)] (by decide +kernel) (pc' := 7) (L' := [.val (.ref c), .val (.int (Int32.ofNat us.length)), .val (.ref b), .val (.int (Int32.ofNat us.length)), .val (.int (Int32.ofNat us.length)), .val (.int (Int32.ofNat us.length)), .val (.int z)]) (S' := [.int (Int32.ofNat us.length), .int (Int32.ofNat us.length)]) rfl ?_
    refine wp_ict C (M8 hw) d8_7 (XT.ii_ge_t (fun q => by have := (lt32 (by omega) hl).mp q; omega)) (pc' := 44) (by decide) ?_
    refine wp_seg C (M8 hw) [(.iload 4, 2)] (by decide +kernel) (pc' := 46) (L' := [.val (.ref c), .val (.int (Int32.ofNat us.length)), .val (.ref b), .val (.int (Int32.ofNat us.length)), .val (.int (Int32.ofNat us.length)), .val (.int (Int32.ofNat us.length)), .val (.int z)]) (S' := [.int (Int32.ofNat us.length)]) rfl ?_
    rw [part_n]
    exact wp_iret C (M8 hw) d8_46 rfl (t := .int) (by decide) rfl Cr K
  | succ d ih =>
    intro i z hd
    have hi : i < us.length := by omega
    refine wp_seg C (M8 hw) [(.iload 5, 2), (.iload 4, 2)] (by decide +kernel) (pc' := 7) (L' := [.val (.ref c), .val (.int (Int32.ofNat i)), .val (.ref b), .val (.int (Int32.ofNat i)), .val (.int (Int32.ofNat us.length)), .val (.int (Int32.ofNat i)), .val (.int z)]) (S' := [.int (Int32.ofNat us.length), .int (Int32.ofNat i)]) rfl ?_
    refine wp_icf C (M8 hw) d8_7 (XT.ii_ge_f ((lt32 (by omega) hl).mpr hi)) ?_
    refine wp_seg C (M8 hw) [(.aload_n 0, 1), (.iload_n 1, 1)] (by decide +kernel) (pc' := 12) (L' := [.val (.ref c), .val (.int (Int32.ofNat i)), .val (.ref b), .val (.int (Int32.ofNat i)), .val (.int (Int32.ofNat us.length)), .val (.int (Int32.ofNat i)), .val (.int z)]) (S' := [.int (Int32.ofNat i), .ref c]) rfl ?_
    refine wp_caload C (M8 hw) d8_12 (a := c) (List.Mem.tail _ hm) (i := i) (Ix32 (by omega)) (v := .int (ch8 (us.getD i 0))) (getD_map hi) ?_
    refine wp_seg C (M8 hw) [(.istore 6, 2), (.iload 6, 2), (.sipush 255, 3)] (by decide +kernel) (pc' := 20) (L' := [.val (.ref c), .val (.int (Int32.ofNat i)), .val (.ref b), .val (.int (Int32.ofNat i)), .val (.int (Int32.ofNat us.length)), .val (.int (Int32.ofNat i)), .val (.int (ch8 (us.getD i 0)))]) (S' := [.int 255, .int (ch8 (us.getD i 0))]) rfl ?_
    refine wp_ict C (M8 hw) d8_20 (XT.ii_le_t (ch8_le _)) (pc' := 26) (by decide) ?_
    refine wp_seg C (M8 hw) [(.aload_n 2, 1), (.iload_n 3, 1), (.iload 6, 2), (.i2b, 1)] (by decide +kernel) (pc' := 31) (L' := [.val (.ref c), .val (.int (Int32.ofNat i)), .val (.ref b), .val (.int (Int32.ofNat i)), .val (.int (Int32.ofNat us.length)), .val (.int (Int32.ofNat i)), .val (.int (ch8 (us.getD i 0)))]) (S' := [.int ((Int32.toInt8 (ch8 (us.getD i 0))).toInt32), .int (Int32.ofNat i), .ref b]) rfl ?_
    refine wp_bastore C (M8 hw) d8_31 (i := 0) (j := i) rfl (Ix32 (by omega)) (by rw [part_len _ _ _ (by omega)]; exact hi) (v' := .int ((us.getD i 0).toInt8.toInt32)) (congrArg Value.int (ch8_byte2 _)) (l' := (b, true, .inr (.byte, part byv (.int 0) us (i + 1))) :: l) (by rw [show Value.int ((us.getD i 0).toInt8.toInt32) = byv (us.getD i 0) from rfl, List.set_cons_zero, part_set _ _ _ hi]) ?_
    refine wp_seg C (M8 hw) [(.iinc 1 1, 3), (.iinc 3 1, 3), (.iinc 5 1, 3), (.goto (-38), 3)] (by decide +kernel) (pc' := 3) (L' := [.val (.ref c), .val (.int ((Int32.ofNat i) + 1)), .val (.ref b), .val (.int ((Int32.ofNat i) + 1)), .val (.int (Int32.ofNat us.length)), .val (.int ((Int32.ofNat i) + 1)), .val (.int (ch8 (us.getD i 0)))]) (S' := []) rfl ?_
    rw [succ32]
    exact ih (i + 1) _ (by omega)
theorem c_cmp5 {κ : Cx} (C : Ok κ) (hw : Ws κ) {c b : Addr} {mc : Bool} {us : List UInt8} (hl : us.length < 2 ^ 31) (h0 : 0 < us.length) {yc : MethodName} {pcc : Nat} {Lc : List Slot} {Sc : List Value} {F : List Frame} {l : List Chunk} {k n : Nat} (Cr : Caller κ yc pcc 3) (hm : (c, mc, .inr (.char, us.map chv)) ∈ l) (K : WP κ yc (pcc + 3) Lc (.int (Int32.ofNat us.length) :: Sc) F ((b, true, .inr (.byte, us.map byv)) :: l) k n) :
    WP κ y8 0 [.val (.ref c), .val (.int 0), .val (.ref b), .val (.int 0), .val (.int (Int32.ofNat us.length)), .unset, .unset] [] (fr κ yc pcc Lc Sc :: F) ((b, true, .inr (.byte, List.replicate us.length (.int 0))) :: l) k n := by
  rw [← part_0 byv (.int 0) us]
  refine wp_seg C (M8 hw) [(.iconst 0, 1), (.istore 5, 2), (.iload 5, 2), (.iload 4, 2)] (by decide +kernel) (pc' := 7) (L' := [.val (.ref c), .val (.int 0), .val (.ref b), .val (.int 0), .val (.int (Int32.ofNat us.length)), .val (.int 0), .unset]) (S' := [.int (Int32.ofNat us.length), .int 0]) rfl ?_
  refine wp_icf C (M8 hw) d8_7 (XT.ii_ge_f ((lt32 (a := 0) (by decide) hl).mpr h0)) ?_
  refine wp_seg C (M8 hw) [(.aload_n 0, 1), (.iload_n 1, 1)] (by decide +kernel) (pc' := 12) (L' := [.val (.ref c), .val (.int 0), .val (.ref b), .val (.int 0), .val (.int (Int32.ofNat us.length)), .val (.int 0), .unset]) (S' := [.int 0, .ref c]) rfl ?_
  refine wp_caload C (M8 hw) d8_12 (a := c) (List.Mem.tail _ hm) (i := 0) ⟨by decide, by decide⟩ (v := .int (ch8 (us.getD 0 0))) (getD_map h0) ?_
  refine wp_seg C (M8 hw) [(.istore 6, 2), (.iload 6, 2), (.sipush 255, 3)] (by decide +kernel) (pc' := 20) (L' := [.val (.ref c), .val (.int 0), .val (.ref b), .val (.int 0), .val (.int (Int32.ofNat us.length)), .val (.int 0), .val (.int (ch8 (us.getD 0 0)))]) (S' := [.int 255, .int (ch8 (us.getD 0 0))]) rfl ?_
  refine wp_ict C (M8 hw) d8_20 (XT.ii_le_t (ch8_le _)) (pc' := 26) (by decide) ?_
  refine wp_seg C (M8 hw) [(.aload_n 2, 1), (.iload_n 3, 1), (.iload 6, 2), (.i2b, 1)] (by decide +kernel) (pc' := 31) (L' := [.val (.ref c), .val (.int 0), .val (.ref b), .val (.int 0), .val (.int (Int32.ofNat us.length)), .val (.int 0), .val (.int (ch8 (us.getD 0 0)))]) (S' := [.int ((Int32.toInt8 (ch8 (us.getD 0 0))).toInt32), .int 0, .ref b]) rfl ?_
  refine wp_bastore C (M8 hw) d8_31 (i := 0) (j := 0) rfl ⟨by decide, by decide⟩ (by rw [part_len _ _ _ (by omega)]; exact h0) (v' := .int ((us.getD 0 0).toInt8.toInt32)) (congrArg Value.int (ch8_byte2 _)) (l' := (b, true, .inr (.byte, part byv (.int 0) us 1)) :: l) (by rw [show Value.int ((us.getD 0 0).toInt8.toInt32) = byv (us.getD 0 0) from rfl, List.set_cons_zero, part_set _ _ _ h0]) ?_
  refine wp_seg C (M8 hw) [(.iinc 1 1, 3), (.iinc 3 1, 3), (.iinc 5 1, 3), (.goto (-38), 3)] (by decide +kernel) (pc' := 3) (L' := [.val (.ref c), .val (.int 1), .val (.ref b), .val (.int 1), .val (.int (Int32.ofNat us.length)), .val (.int 1), .val (.int (ch8 (us.getD 0 0)))]) (S' := []) rfl ?_
  exact h_cmp5 C hw hl Cr hm K (us.length - 1) 1 _ (by omega)
theorem c_cmp3 {κ : Cx} (C : Ok κ) (hw : Ws κ) {c : Addr} {mc : Bool} {us : List UInt8} (hl : us.length < 2 ^ 31) (hb : us.length * 8 ≤ 536870912) (h0 : 0 < us.length) {yc : MethodName} {pcc : Nat} {Lc : List Slot} {Sc : List Value} {F : List Frame} {l : List Chunk} {k n : Nat} (Cr : Caller κ yc pcc 3) (hR : Rm κ (fr κ yc pcc Lc Sc :: F) 2 35) (hm : (c, mc, .inr (.char, us.map chv)) ∈ l) (hk : k + 1 ≤ (kR κ).cells) (hn : n + us.length ≤ (kR κ).slots) (K : ∀ b, WP κ yc (pcc + 3) Lc (.ref b :: Sc) F ((b, true, .inr (.byte, us.map byv)) :: l) (k + 1) (n + us.length)) :
    WP κ y9 0 [.val (.ref c), .val (.int 0), .val (.int (Int32.ofNat us.length)), .unset, .unset, .unset] [] (fr κ yc pcc Lc Sc :: F) (l) k n := by
  refine wp_seg C (M9 hw) [(.iload_n 2, 1)] (by decide +kernel) (pc' := 1) (L' := [.val (.ref c), .val (.int 0), .val (.int (Int32.ofNat us.length)), .unset, .unset, .unset]) (S' := [.int (Int32.ofNat us.length)]) rfl ?_
  refine wp_newarray C (M9 hw) d9_1 rfl (w11 hw) (len := us.length) (Ix32 hl) hb hk hn (vs := List.replicate us.length (.int 0)) rfl fun a1 => ?_
  refine wp_seg C (M9 hw) [(.astore_n 3, 1), (.aload_n 0, 1), (.iload_n 1, 1), (.aload_n 3, 1), (.iconst 0, 1), (.iload_n 2, 1)] (by decide +kernel) (pc' := 9) (L' := [.val (.ref c), .val (.int 0), .val (.int (Int32.ofNat us.length)), .val (.ref a1), .unset, .unset]) (S' := [.int (Int32.ofNat us.length), .int 0, .ref a1, .int 0, .ref c]) rfl ?_
  refine wp_invokestatic C (M9 hw) d9_9 (M8 hw) (w59 hw) (w60 hw) (w57 hw) (by decide) (S' := []) [.ref c, .int 0, .ref a1, .int 0, .int (Int32.ofNat us.length)] (lenOf pd8 rfl) rfl (L' := [.val (.ref c), .val (.int 0), .val (.ref a1), .val (.int 0), .val (.int (Int32.ofNat us.length)), .unset, .unset]) rfl rfl (hR.push (d' := 1) (w' := 18) (Nat.le_of_ble_eq_true rfl) (Nat.le_of_ble_eq_true rfl)) ?_
  refine c_cmp5 C hw hl h0 (Meth.caller (M9 hw) d9_9) hm ?_
  refine wp_seg C (M9 hw) [(.istore 4, 2), (.iload 4, 2), (.iload_n 2, 1)] (by decide +kernel) (pc' := 17) (L' := [.val (.ref c), .val (.int 0), .val (.int (Int32.ofNat us.length)), .val (.ref a1), .val (.int (Int32.ofNat us.length)), .unset]) (S' := [.int (Int32.ofNat us.length), .int (Int32.ofNat us.length)]) rfl ?_
  refine wp_ict C (M9 hw) d9_17 (XT.ii_eq_t rfl) (pc' := 57) (by decide) ?_
  refine wp_seg C (M9 hw) [(.aload_n 3, 1)] (by decide +kernel) (pc' := 58) (L' := [.val (.ref c), .val (.int 0), .val (.int (Int32.ofNat us.length)), .val (.ref a1), .val (.int (Int32.ofNat us.length)), .unset]) (S' := [.ref a1]) rfl ?_
  exact wp_aret C (M9 hw) d9_58 rfl (t := .array .byte) rfl rfl Cr (K a1)
theorem c_cfa {κ : Cx} (C : Ok κ) (hw : Ws κ) {b : Addr} {mb : Bool} {us : List UInt8} {yc : MethodName} {pcc : Nat} {Lc : List Slot} {Sc : List Value} {F : List Frame} {l : List Chunk} {k n : Nat} (Cr : Caller κ yc pcc 3) (hm : (b, mb, .inr (.byte, us.map byv)) ∈ l) (K : WP κ yc (pcc + 3) Lc (.int 0 :: Sc) F (l) k n) :
    WP κ y10 0 [.val (.ref b), .val (.int (Int32.ofNat us.length))] [] (fr κ yc pcc Lc Sc :: F) (l) k n := by
  refine wp_seg C (M10 hw) [(.iload_n 1, 1), (.aload_n 0, 1)] (by decide +kernel) (pc' := 2) (L' := [.val (.ref b), .val (.int (Int32.ofNat us.length))]) (S' := [.ref b, .int (Int32.ofNat us.length)]) rfl ?_
  refine wp_arraylength C (M10 hw) d10_2 (a := b) hm (z := (Int32.ofNat us.length)) (by simp) ?_
  refine wp_seg C (M10 hw) [(.isub, 1)] (by decide +kernel) (pc' := 4) (L' := [.val (.ref b), .val (.int (Int32.ofNat us.length))]) (S' := [.int ((Int32.ofNat us.length) - (Int32.ofNat us.length))]) rfl ?_
  rw [Int32.sub_self]
  refine wp_seg C (M10 hw) [(.bipush 31, 2), (.iushr, 1), (.i2b, 1)] (by decide +kernel) (pc' := 8) (L' := [.val (.ref b), .val (.int (Int32.ofNat us.length))]) (S' := [.int 0]) rfl ?_
  exact wp_iret C (M10 hw) d10_8 rfl (t := .byte) (by decide) rfl Cr K
theorem c_init4 {κ : Cx} (C : Ok κ) (hw : Ws κ) (hs : StrS κ) {a c : Addr} {mc : Bool} {us : List UInt8} (hl : us.length < 2 ^ 31) (hb : us.length * 8 ≤ 536870912) (h0 : 0 < us.length) {yc : MethodName} {pcc : Nat} {Lc : List Slot} {Sc : List Value} {F : List Frame} {l : List Chunk} {k n : Nat} (Cr : Caller κ yc pcc 3) (hR : Rm κ (fr κ yc pcc Lc Sc :: F) 3 52) (hm : (c, mc, .inr (.char, us.map chv)) ∈ l) (hk : k + 1 ≤ (kR κ).cells) (hn : n + us.length ≤ (kR κ).slots) (K : ∀ b, WP κ yc (pcc + 3) Lc Sc F (strO a b 0 :: strB b us :: l) (k + 1) (n + us.length)) :
    WP κ y11 0 [.val (.ref a), .val (.ref c), .val (.int 0), .val (.int (Int32.ofNat us.length)), .val (.null), .unset] [] (fr κ yc pcc Lc Sc :: F) ((a, true, .inl ("java/lang/String", [("java/lang/String", "value", "[B", .null), ("java/lang/String", "coder", "B", .int 0)])) :: l) k n := by
  obtain ⟨⟨cz, hcs, scs⟩, fv, hfv, sfv⟩ := hs
  refine wp_seg C (M11 hw) [(.aload_n 0, 1)] (by decide +kernel) (pc' := 1) (L' := [.val (.ref a), .val (.ref c), .val (.int 0), .val (.int (Int32.ofNat us.length)), .val (.null), .unset]) (S' := [.ref a]) rfl ?_
  refine wp_initObject C (M11 hw) d11_1 (w52 hw) (w53 hw) (w54 hw) (hR.push (d' := 1) (w' := 12) (Nat.le_of_ble_eq_true rfl) (Nat.le_of_ble_eq_true rfl)) ?_
  refine wp_seg C (M11 hw) [(.iload_n 3, 1)] (by decide +kernel) (pc' := 5) (L' := [.val (.ref a), .val (.ref c), .val (.int 0), .val (.int (Int32.ofNat us.length)), .val (.null), .unset]) (S' := [.int (Int32.ofNat us.length)]) rfl ?_
  refine wp_ift C (M11 hw) d11_5 (XT.i0_ne_t (fun q => by have := (eq32 (b := 0) hl (by decide)).mp q; omega)) (pc' := 27) (by decide) ?_
  refine wp_getstatic C (M11 hw) d11_27 (w26 hw) (Or.inl rfl) scs ?_
  refine wp_iff C (M11 hw) d11_30 (XT.i0_eq_f hcs) ?_
  refine wp_seg C (M11 hw) [(.aload_n 1, 1), (.iload_n 2, 1), (.iload_n 3, 1)] (by decide +kernel) (pc' := 36) (L' := [.val (.ref a), .val (.ref c), .val (.int 0), .val (.int (Int32.ofNat us.length)), .val (.null), .unset]) (S' := [.int (Int32.ofNat us.length), .int 0, .ref c]) rfl ?_
  refine wp_invokestatic C (M11 hw) d11_36 (M9 hw) (w55 hw) (w56 hw) (w57 hw) (by decide) (S' := []) [.ref c, .int 0, .int (Int32.ofNat us.length)] (lenOf pd9 rfl) rfl (L' := [.val (.ref c), .val (.int 0), .val (.int (Int32.ofNat us.length)), .unset, .unset, .unset]) rfl rfl (hR.push (d' := 1) (w' := 17) (Nat.le_of_ble_eq_true rfl) (Nat.le_of_ble_eq_true rfl)) ?_
  refine c_cmp3 C hw hl hb h0 (Meth.caller (M11 hw) d11_36) (hR.push (d' := 2) (w' := 35) (Nat.le_of_ble_eq_true rfl) (Nat.le_of_ble_eq_true rfl)) (List.Mem.tail _ hm) hk hn fun b => ?_
  refine wp_seg C (M11 hw) [(.astore 5, 2), (.aload_n 0, 1), (.aload 5, 2), (.iload_n 3, 1)] (by decide +kernel) (pc' := 45) (L' := [.val (.ref a), .val (.ref c), .val (.int 0), .val (.int (Int32.ofNat us.length)), .val (.null), .val (.ref b)]) (S' := [.int (Int32.ofNat us.length), .ref b, .ref a]) rfl ?_
  refine wp_invokestatic C (M11 hw) d11_45 (M10 hw) (w62 hw) (w63 hw) (w57 hw) (by decide) (S' := [.ref a]) [.ref b, .int (Int32.ofNat us.length)] (lenOf pd10 rfl) rfl (L' := [.val (.ref b), .val (.int (Int32.ofNat us.length))]) rfl rfl (hR.push (d' := 1) (w' := 13) (Nat.le_of_ble_eq_true rfl) (Nat.le_of_ble_eq_true rfl)) ?_
  refine c_cfa C hw  (Meth.caller (M11 hw) d11_45) (List.mem_of_getElem? (i := 0) rfl) ?_
  refine wp_putfield C (M11 hw) d11_48 (w27 hw) (Or.inl rfl) (i := 1) (j := 1) rfl rfl (Or.inr ⟨(w13 hw), rfl, rfl⟩) (w10 hw) (ty := .byte) (by decide) rfl rfl (l' := (b, true, .inr (.byte, us.map byv)) :: (a, true, .inl ("java/lang/String", [("java/lang/String", "value", "[B", .null), ("java/lang/String", "coder", "B", .int 0)])) :: l) rfl ?_
  refine wp_seg C (M11 hw) [(.aload_n 0, 1), (.aload 5, 2)] (by decide +kernel) (pc' := 54) (L' := [.val (.ref a), .val (.ref c), .val (.int 0), .val (.int (Int32.ofNat us.length)), .val (.null), .val (.ref b)]) (S' := [.ref b, .ref a]) rfl ?_
  refine wp_putfield C (M11 hw) d11_54 (w28 hw) (Or.inl rfl) (i := 1) (j := 0) rfl rfl (Or.inr ⟨(w12 hw), rfl, rfl⟩) (w10 hw) (ty := .array (.byte)) (by decide) rfl rfl (l' := (b, true, .inr (.byte, us.map byv)) :: (a, true, .inl ("java/lang/String", [("java/lang/String", "value", "[B", .ref b), ("java/lang/String", "coder", "B", .int 0)])) :: l) rfl ?_
  refine wp_freeze ?_
  refine wp_front 1 rfl rfl ?_
  refine wp_freeze ?_
  exact wp_vret C (M11 hw) d11_57 Cr (K b)
theorem c_init1 {κ : Cx} (C : Ok κ) (hw : Ws κ) (hs : StrS κ) {a c : Addr} {mc : Bool} {us : List UInt8} (hl : us.length < 2 ^ 31) (hb : us.length * 8 ≤ 536870912) (h0 : 0 < us.length) {yc : MethodName} {pcc : Nat} {Lc : List Slot} {Sc : List Value} {F : List Frame} {l : List Chunk} {k n : Nat} (Cr : Caller κ yc pcc 3) (hR : Rm κ (fr κ yc pcc Lc Sc :: F) 4 65) (hm : (c, mc, .inr (.char, us.map chv)) ∈ l) (hk : k + 1 ≤ (kR κ).cells) (hn : n + us.length ≤ (kR κ).slots) (K : ∀ b, WP κ yc (pcc + 3) Lc Sc F (strO a b 0 :: strB b us :: l) (k + 1) (n + us.length)) :
    WP κ y12 0 [.val (.ref a), .val (.ref c)] [] (fr κ yc pcc Lc Sc :: F) ((a, true, .inl ("java/lang/String", [("java/lang/String", "value", "[B", .null), ("java/lang/String", "coder", "B", .int 0)])) :: l) k n := by
  refine wp_seg C (M12 hw) [(.aload_n 0, 1), (.aload_n 1, 1), (.iconst 0, 1), (.aload_n 1, 1)] (by decide +kernel) (pc' := 4) (L' := [.val (.ref a), .val (.ref c)]) (S' := [.ref c, .int 0, .ref c, .ref a]) rfl ?_
  refine wp_arraylength C (M12 hw) d12_4 (a := c) (List.Mem.tail _ hm) (z := (Int32.ofNat us.length)) (by simp) ?_
  refine wp_seg C (M12 hw) [(.aconst_null, 1)] (by decide +kernel) (pc' := 6) (L' := [.val (.ref a), .val (.ref c)]) (S' := [.null, .int (Int32.ofNat us.length), .int 0, .ref c, .ref a]) rfl ?_
  refine wp_init C (M12 hw) d12_6 (M11 hw) rfl (w48 hw) (w49 hw) (by decide) (S' := []) a [.ref c, .int 0, .int (Int32.ofNat us.length), .null] (lenOf pd11 rfl) rfl (L' := [.val (.ref a), .val (.ref c), .val (.int 0), .val (.int (Int32.ofNat us.length)), .val (.null), .unset]) rfl rfl (hR.push (d' := 1) (w' := 17) (Nat.le_of_ble_eq_true rfl) (Nat.le_of_ble_eq_true rfl)) ?_
  refine c_init4 C hw hs hl hb h0 (Meth.caller (M12 hw) d12_6) (hR.push (d' := 3) (w' := 52) (Nat.le_of_ble_eq_true rfl) (Nat.le_of_ble_eq_true rfl)) hm hk hn fun b => ?_
  exact wp_vret C (M12 hw) d12_9 Cr (K b)
theorem c_max1 {κ : Cx} (C : Ok κ) (hw : Ws κ) {x z : Int32} (h : ¬ x < z) {yc : MethodName} {pcc : Nat} {Lc : List Slot} {Sc : List Value} {F : List Frame} {l : List Chunk} {k n : Nat} (Cr : Caller κ yc pcc 3)  (K : WP κ yc (pcc + 3) Lc (.int x :: Sc) F (l) k n) :
    WP κ y13 0 [.val (.int x), .val (.int z)] [] (fr κ yc pcc Lc Sc :: F) (l) k n := by
  refine wp_seg C (M13 hw) [(.iload_n 0, 1), (.iload_n 1, 1)] (by decide +kernel) (pc' := 2) (L' := [.val (.int x), .val (.int z)]) (S' := [.int z, .int x]) rfl ?_
  refine wp_icf C (M13 hw) d13_2 (XT.ii_lt_f h) ?_
  refine wp_seg C (M13 hw) [(.iload_n 0, 1), (.goto 4, 3)] (by decide +kernel) (pc' := 10) (L' := [.val (.int x), .val (.int z)]) (S' := [.int x]) rfl ?_
  exact wp_iret C (M13 hw) d13_10 rfl (t := .int) (by decide) rfl Cr K
theorem c_max2 {κ : Cx} (C : Ok κ) (hw : Ws κ) {x z : Int32} (h : x < z) {yc : MethodName} {pcc : Nat} {Lc : List Slot} {Sc : List Value} {F : List Frame} {l : List Chunk} {k n : Nat} (Cr : Caller κ yc pcc 3)  (K : WP κ yc (pcc + 3) Lc (.int z :: Sc) F (l) k n) :
    WP κ y13 0 [.val (.int x), .val (.int z)] [] (fr κ yc pcc Lc Sc :: F) (l) k n := by
  refine wp_seg C (M13 hw) [(.iload_n 0, 1), (.iload_n 1, 1)] (by decide +kernel) (pc' := 2) (L' := [.val (.int x), .val (.int z)]) (S' := [.int z, .int x]) rfl ?_
  refine wp_ict C (M13 hw) d13_2 (XT.ii_lt_t h) (pc' := 9) (by decide) ?_
  refine wp_seg C (M13 hw) [(.iload_n 1, 1)] (by decide +kernel) (pc' := 10) (L' := [.val (.int x), .val (.int z)]) (S' := [.int z]) rfl ?_
  exact wp_iret C (M13 hw) d13_10 rfl (t := .int) (by decide) rfl Cr K
theorem c_min1 {κ : Cx} (C : Ok κ) (hw : Ws κ) {x z : Int32} (h : ¬ z < x) {yc : MethodName} {pcc : Nat} {Lc : List Slot} {Sc : List Value} {F : List Frame} {l : List Chunk} {k n : Nat} (Cr : Caller κ yc pcc 3)  (K : WP κ yc (pcc + 3) Lc (.int x :: Sc) F (l) k n) :
    WP κ y14 0 [.val (.int x), .val (.int z)] [] (fr κ yc pcc Lc Sc :: F) (l) k n := by
  refine wp_seg C (M14 hw) [(.iload_n 0, 1), (.iload_n 1, 1)] (by decide +kernel) (pc' := 2) (L' := [.val (.int x), .val (.int z)]) (S' := [.int z, .int x]) rfl ?_
  refine wp_icf C (M14 hw) d14_2 (XT.ii_gt_f h) ?_
  refine wp_seg C (M14 hw) [(.iload_n 0, 1), (.goto 4, 3)] (by decide +kernel) (pc' := 10) (L' := [.val (.int x), .val (.int z)]) (S' := [.int x]) rfl ?_
  exact wp_iret C (M14 hw) d14_10 rfl (t := .int) (by decide) rfl Cr K
theorem c_min2 {κ : Cx} (C : Ok κ) (hw : Ws κ) {x z : Int32} (h : z < x) {yc : MethodName} {pcc : Nat} {Lc : List Slot} {Sc : List Value} {F : List Frame} {l : List Chunk} {k n : Nat} (Cr : Caller κ yc pcc 3)  (K : WP κ yc (pcc + 3) Lc (.int z :: Sc) F (l) k n) :
    WP κ y14 0 [.val (.int x), .val (.int z)] [] (fr κ yc pcc Lc Sc :: F) (l) k n := by
  refine wp_seg C (M14 hw) [(.iload_n 0, 1), (.iload_n 1, 1)] (by decide +kernel) (pc' := 2) (L' := [.val (.int x), .val (.int z)]) (S' := [.int z, .int x]) rfl ?_
  refine wp_ict C (M14 hw) d14_2 (XT.ii_gt_t h) (pc' := 9) (by decide) ?_
  refine wp_seg C (M14 hw) [(.iload_n 1, 1)] (by decide +kernel) (pc' := 10) (L' := [.val (.int x), .val (.int z)]) (S' := [.int z]) rfl ?_
  exact wp_iret C (M14 hw) d14_10 rfl (t := .int) (by decide) rfl Cr K
theorem c_cani {κ : Cx} (C : Ok κ) (hw : Ws κ) {c : UInt8} {yc : MethodName} {pcc : Nat} {Lc : List Slot} {Sc : List Value} {F : List Frame} {l : List Chunk} {k n : Nat} (Cr : Caller κ yc pcc 3)  (K : WP κ yc (pcc + 3) Lc (.int 1 :: Sc) F (l) k n) :
    WP κ y15 0 [.val (.int (ch8 c))] [] (fr κ yc pcc Lc Sc :: F) (l) k n := by
  refine wp_seg C (M15 hw) [(.iload_n 0, 1)] (by decide +kernel) (pc' := 1) (L' := [.val (.int (ch8 c))]) (S' := [.int (ch8 c)]) rfl ?_
  refine wp_iff C (M15 hw) d15_1 (XT.i0_lt_f (by rw [ch8_nat]; exact nn32 (by have := c.toNat_lt; omega))) ?_
  refine wp_seg C (M15 hw) [(.iload_n 0, 1), (.sipush 255, 3)] (by decide +kernel) (pc' := 8) (L' := [.val (.int (ch8 c))]) (S' := [.int 255, .int (ch8 c)]) rfl ?_
  refine wp_icf C (M15 hw) d15_8 (XT.ii_gt_f (ch8_le c)) ?_
  refine wp_seg C (M15 hw) [(.iconst 1, 1), (.goto 4, 3)] (by decide +kernel) (pc' := 16) (L' := [.val (.int (ch8 c))]) (S' := [.int 1]) rfl ?_
  exact wp_iret C (M15 hw) d15_16 rfl (t := .boolean) (by decide) rfl Cr K
theorem h_ixc {κ : Cx} (C : Ok κ) (hw : Ws κ) {b : Addr} {us : List UInt8} {c : UInt8} {f : Int32} (hl : us.length < 2 ^ 31) {yc : MethodName} {pcc : Nat} {Lc : List Slot} {Sc : List Value} {F : List Frame} {l : List Chunk} {k n : Nat} (Cr : Caller κ yc pcc 3) (hb : strB b us ∈ l) : ∀ (d i : Nat), i + d = us.length → (WP κ yc (pcc + 3) Lc (.int (ixc us c d i) :: Sc) F (l) k n) →
    WP κ y16 7 [.val (.ref b), .val (.int (ch8 c)), .val (.int f), .val (.int (Int32.ofNat us.length)), .val (.int (c.toInt8.toInt32)), .val (.int (Int32.ofNat i))] [] (fr κ yc pcc Lc Sc :: F) (l) k n := by
  intro d
  induction d with
  | zero =>
    intro i hi K
    refine wp_seg C (M16 hw) [(.iload 5, 2), (.iload_n 3, 1)] (by decide +kernel) (pc' := 10) (L' := [.val (.ref b), .val (.int (ch8 c)), .val (.int f), .val (.int (Int32.ofNat us.length)), .val (.int (c.toInt8.toInt32)), .val (.int (Int32.ofNat i))]) (S' := [.int (Int32.ofNat us.length), .int (Int32.ofNat i)]) rfl ?_
    refine wp_ict C (M16 hw) d16_10 (XT.ii_ge_t (fun q => by have := (lt32 (by omega) hl).mp q; omega)) (pc' := 31) (by decide) ?_
    refine wp_seg C (M16 hw) [(.iconst (-1), 1)] (by decide +kernel) (pc' := 32) (L' := [.val (.ref b), .val (.int (ch8 c)), .val (.int f), .val (.int (Int32.ofNat us.length)), .val (.int (c.toInt8.toInt32)), .val (.int (Int32.ofNat i))]) (S' := [.int (-1)]) rfl ?_
    exact wp_iret C (M16 hw) d16_32 rfl (t := .int) (by decide) rfl Cr K
  | succ d ih =>
    intro i hd K
    have hi : i < us.length := by omega
    refine wp_seg C (M16 hw) [(.iload 5, 2), (.iload_n 3, 1)] (by decide +kernel) (pc' := 10) (L' := [.val (.ref b), .val (.int (ch8 c)), .val (.int f), .val (.int (Int32.ofNat us.length)), .val (.int (c.toInt8.toInt32)), .val (.int (Int32.ofNat i))]) (S' := [.int (Int32.ofNat us.length), .int (Int32.ofNat i)]) rfl ?_
    refine wp_icf C (M16 hw) d16_10 (XT.ii_ge_f ((lt32 (by omega) hl).mpr hi)) ?_
    refine wp_seg C (M16 hw) [(.aload_n 0, 1), (.iload 5, 2)] (by decide +kernel) (pc' := 16) (L' := [.val (.ref b), .val (.int (ch8 c)), .val (.int f), .val (.int (Int32.ofNat us.length)), .val (.int (c.toInt8.toInt32)), .val (.int (Int32.ofNat i))]) (S' := [.int (Int32.ofNat i), .ref b]) rfl ?_
    refine wp_baload C (M16 hw) d16_16 (a := b) hb (i := i) (Ix32 (by omega)) (v := .int ((us.getD i 0).toInt8.toInt32)) (getD_map hi) ?_
    refine wp_seg C (M16 hw) [(.iload 4, 2)] (by decide +kernel) (pc' := 19) (L' := [.val (.ref b), .val (.int (ch8 c)), .val (.int f), .val (.int (Int32.ofNat us.length)), .val (.int (c.toInt8.toInt32)), .val (.int (Int32.ofNat i))]) (S' := [.int (c.toInt8.toInt32), .int ((us.getD i 0).toInt8.toInt32)]) rfl ?_
    unfold ixc at K
    by_cases hz : us.getD i 0 = c
    · rw [if_pos hz] at K
      refine wp_icf C (M16 hw) d16_19 (XT.ii_ne_f (byv_inj.mpr hz)) ?_
      refine wp_seg C (M16 hw) [(.iload 5, 2)] (by decide +kernel) (pc' := 24) (L' := [.val (.ref b), .val (.int (ch8 c)), .val (.int f), .val (.int (Int32.ofNat us.length)), .val (.int (c.toInt8.toInt32)), .val (.int (Int32.ofNat i))]) (S' := [.int (Int32.ofNat i)]) rfl ?_
      exact wp_iret C (M16 hw) d16_24 rfl (t := .int) (by decide) rfl Cr K
    · rw [if_neg hz] at K
      refine wp_ict C (M16 hw) d16_19 (XT.ii_ne_t (fun q => hz (byv_inj.mp q))) (pc' := 25) (by decide) ?_
      refine wp_seg C (M16 hw) [(.iinc 5 1, 3), (.goto (-21), 3)] (by decide +kernel) (pc' := 7) (L' := [.val (.ref b), .val (.int (ch8 c)), .val (.int f), .val (.int (Int32.ofNat us.length)), .val (.int (c.toInt8.toInt32)), .val (.int ((Int32.ofNat i) + 1))]) (S' := []) rfl ?_
      rw [succ32]
      exact ih (i + 1) (by omega) K
theorem c_ixc {κ : Cx} (C : Ok κ) (hw : Ws κ) {b : Addr} {us : List UInt8} {c : UInt8} {i : Nat} (hl : us.length < 2 ^ 31) (hi : i ≤ us.length) {yc : MethodName} {pcc : Nat} {Lc : List Slot} {Sc : List Value} {F : List Frame} {l : List Chunk} {k n : Nat} (Cr : Caller κ yc pcc 3) (hb : strB b us ∈ l) (K : WP κ yc (pcc + 3) Lc (.int (ixc us c (us.length - i) i) :: Sc) F (l) k n) :
    WP κ y16 0 [.val (.ref b), .val (.int (ch8 c)), .val (.int (Int32.ofNat i)), .val (.int (Int32.ofNat us.length)), .unset, .unset] [] (fr κ yc pcc Lc Sc :: F) (l) k n := by
  refine wp_seg C (M16 hw) [(.iload_n 1, 1), (.i2b, 1)] (by decide +kernel) (pc' := 2) (L' := [.val (.ref b), .val (.int (ch8 c)), .val (.int (Int32.ofNat i)), .val (.int (Int32.ofNat us.length)), .unset, .unset]) (S' := [.int ((Int32.toInt8 (ch8 c)).toInt32)]) rfl ?_
  rw [ch8_byte]
  refine wp_seg C (M16 hw) [(.istore 4, 2), (.iload_n 2, 1), (.istore 5, 2)] (by decide +kernel) (pc' := 7) (L' := [.val (.ref b), .val (.int (ch8 c)), .val (.int (Int32.ofNat i)), .val (.int (Int32.ofNat us.length)), .val (.int (c.toInt8.toInt32)), .val (.int (Int32.ofNat i))]) (S' := []) rfl ?_
  exact h_ixc C hw hl Cr hb (us.length - i) i (by omega) K
theorem c_lix {κ : Cx} (C : Ok κ) (hw : Ws κ) {b : Addr} {us : List UInt8} {c : UInt8} {i : Nat} (hl : us.length < 2 ^ 31) (hi : i ≤ us.length) {yc : MethodName} {pcc : Nat} {Lc : List Slot} {Sc : List Value} {F : List Frame} {l : List Chunk} {k n : Nat} (Cr : Caller κ yc pcc 3) (hR : Rm κ (fr κ yc pcc Lc Sc :: F) 2 32) (hb : strB b us ∈ l) (K : WP κ yc (pcc + 3) Lc (.int (ixc us c (us.length - i) i) :: Sc) F (l) k n) :
    WP κ y17 0 [.val (.ref b), .val (.int (ch8 c)), .val (.int (Int32.ofNat i)), .val (.int (Int32.ofNat us.length))] [] (fr κ yc pcc Lc Sc :: F) (l) k n := by
  refine wp_seg C (M17 hw) [(.iload_n 1, 1)] (by decide +kernel) (pc' := 1) (L' := [.val (.ref b), .val (.int (ch8 c)), .val (.int (Int32.ofNat i)), .val (.int (Int32.ofNat us.length))]) (S' := [.int (ch8 c)]) rfl ?_
  refine wp_invokestatic C (M17 hw) d17_1 (M15 hw) (w103 hw) (w104 hw) (w31 hw) (by decide) (S' := []) [.int (ch8 c)] (lenOf pd15 rfl) rfl (L' := [.val (.int (ch8 c))]) rfl rfl (hR.push (d' := 1) (w' := 12) (Nat.le_of_ble_eq_true rfl) (Nat.le_of_ble_eq_true rfl)) ?_
  refine c_cani C hw  (Meth.caller (M17 hw) d17_1)  ?_
  refine wp_ift C (M17 hw) d17_4 (XT.i0_ne_t (by decide)) (pc' := 9) (by decide) ?_
  refine wp_seg C (M17 hw) [(.iload_n 2, 1), (.iconst 0, 1)] (by decide +kernel) (pc' := 11) (L' := [.val (.ref b), .val (.int (ch8 c)), .val (.int (Int32.ofNat i)), .val (.int (Int32.ofNat us.length))]) (S' := [.int 0, .int (Int32.ofNat i)]) rfl ?_
  refine wp_invokestatic C (M17 hw) d17_11 (M13 hw) (w106 hw) (w107 hw) (w108 hw) (by decide) (S' := []) [.int (Int32.ofNat i), .int 0] (lenOf pd13 rfl) rfl (L' := [.val (.int (Int32.ofNat i)), .val (.int 0)]) rfl rfl (hR.push (d' := 1) (w' := 13) (Nat.le_of_ble_eq_true rfl) (Nat.le_of_ble_eq_true rfl)) ?_
  refine c_max1 C hw (nn32 (by omega)) (Meth.caller (M17 hw) d17_11)  ?_
  refine wp_seg C (M17 hw) [(.istore_n 2, 1), (.iload_n 3, 1), (.aload_n 0, 1)] (by decide +kernel) (pc' := 17) (L' := [.val (.ref b), .val (.int (ch8 c)), .val (.int (Int32.ofNat i)), .val (.int (Int32.ofNat us.length))]) (S' := [.ref b, .int (Int32.ofNat us.length)]) rfl ?_
  refine wp_arraylength C (M17 hw) d17_17 (a := b) hb (z := (Int32.ofNat us.length)) (by simp) ?_
  refine wp_invokestatic C (M17 hw) d17_18 (M14 hw) (w110 hw) (w111 hw) (w108 hw) (by decide) (S' := []) [.int (Int32.ofNat us.length), .int (Int32.ofNat us.length)] (lenOf pd14 rfl) rfl (L' := [.val (.int (Int32.ofNat us.length)), .val (.int (Int32.ofNat us.length))]) rfl rfl (hR.push (d' := 1) (w' := 13) (Nat.le_of_ble_eq_true rfl) (Nat.le_of_ble_eq_true rfl)) ?_
  refine c_min1 C hw Int32.lt_irrefl (Meth.caller (M17 hw) d17_18)  ?_
  refine wp_seg C (M17 hw) [(.istore_n 3, 1), (.iload_n 2, 1), (.iload_n 3, 1)] (by decide +kernel) (pc' := 24) (L' := [.val (.ref b), .val (.int (ch8 c)), .val (.int (Int32.ofNat i)), .val (.int (Int32.ofNat us.length))]) (S' := [.int (Int32.ofNat us.length), .int (Int32.ofNat i)]) rfl ?_
  by_cases hq : i < us.length
  · refine wp_ict C (M17 hw) d17_24 (XT.ii_lt_t ((lt32 (by omega) hl).mpr hq)) (pc' := 29) (by decide) ?_
    refine wp_seg C (M17 hw) [(.aload_n 0, 1), (.iload_n 1, 1), (.iload_n 2, 1), (.iload_n 3, 1)] (by decide +kernel) (pc' := 33) (L' := [.val (.ref b), .val (.int (ch8 c)), .val (.int (Int32.ofNat i)), .val (.int (Int32.ofNat us.length))]) (S' := [.int (Int32.ofNat us.length), .int (Int32.ofNat i), .int (ch8 c), .ref b]) rfl ?_
    refine wp_invokestatic C (M17 hw) d17_33 (M16 hw) (w113 hw) (w114 hw) (w31 hw) (by decide) (S' := []) [.ref b, .int (ch8 c), .int (Int32.ofNat i), .int (Int32.ofNat us.length)] (lenOf pd16 rfl) rfl (L' := [.val (.ref b), .val (.int (ch8 c)), .val (.int (Int32.ofNat i)), .val (.int (Int32.ofNat us.length)), .unset, .unset]) rfl rfl (hR.push (d' := 1) (w' := 17) (Nat.le_of_ble_eq_true rfl) (Nat.le_of_ble_eq_true rfl)) ?_
    refine c_ixc C hw hl hi (Meth.caller (M17 hw) d17_33) hb ?_
    exact wp_iret C (M17 hw) d17_36 rfl (t := .int) (by decide) rfl Cr K
  · refine wp_icf C (M17 hw) d17_24 (XT.ii_lt_f (fun q => hq ((lt32 (by omega) hl).mp q))) ?_
    rw [show us.length - i = 0 from by omega] at K
    refine wp_seg C (M17 hw) [(.iconst (-1), 1)] (by decide +kernel) (pc' := 28) (L' := [.val (.ref b), .val (.int (ch8 c)), .val (.int (Int32.ofNat i)), .val (.int (Int32.ofNat us.length))]) (S' := [.int (-1)]) rfl ?_
    exact wp_iret C (M17 hw) d17_28 rfl (t := .int) (by decide) rfl Cr K
theorem c_ix2 {κ : Cx} (C : Ok κ) (hw : Ws κ) (hs : StrS κ) {a : Addr} {us : List UInt8} {c : UInt8} {i : Nat} (hl : us.length < 2 ^ 31) (hi : i ≤ us.length) {yc : MethodName} {pcc : Nat} {Lc : List Slot} {Sc : List Value} {F : List Frame} {l : List Chunk} {k n : Nat} (Cr : Caller κ yc pcc 3) (hR : Rm κ (fr κ yc pcc Lc Sc :: F) 3 46) (st : Str l a us) (K : WP κ yc (pcc + 3) Lc (.int (ixc us c (us.length - i) i) :: Sc) F (l) k n) :
    WP κ y18 0 [.val (.ref a), .val (.int (ch8 c)), .val (.int (Int32.ofNat i))] [] (fr κ yc pcc Lc Sc :: F) (l) k n := by
  have st0 := st
  obtain ⟨b, ho, hb⟩ := st
  refine wp_seg C (M18 hw) [(.aload_n 0, 1)] (by decide +kernel) (pc' := 1) (L' := [.val (.ref a), .val (.int (ch8 c)), .val (.int (Int32.ofNat i))]) (S' := [.ref a]) rfl ?_
  refine wp_invokevirtual C (M18 hw) d18_1 (M3 hw) (Cl := "java/lang/String") (w21 hw) (w22 hw) (w24 hw) (w23 hw) (Or.inl ⟨_, (w24 hw)⟩) (by decide) (b := a) ho (S' := []) [] (lenOf pd3 rfl) rfl (L' := [.val (.ref a)]) rfl rfl (hR.push (d' := 1) (w' := 12) (Nat.le_of_ble_eq_true rfl) (Nat.le_of_ble_eq_true rfl)) ?_
  refine c_isl C hw hs (Meth.caller (M18 hw) d18_1) ho ?_
  refine wp_iff C (M18 hw) d18_4 (XT.i0_eq_f (by decide)) ?_
  refine wp_seg C (M18 hw) [(.aload_n 0, 1)] (by decide +kernel) (pc' := 8) (L' := [.val (.ref a), .val (.int (ch8 c)), .val (.int (Int32.ofNat i))]) (S' := [.ref a]) rfl ?_
  refine wp_getfield C (M18 hw) d18_8 (w28 hw) (Or.inl rfl) (a := a) (mu := false) (Cl := "java/lang/String") (fs := [("java/lang/String", "value", "[B", .ref b), ("java/lang/String", "coder", "B", .int 0)]) ho (List.mem_of_getElem? (i := 0) rfl) ?_
  refine wp_seg C (M18 hw) [(.iload_n 1, 1), (.iload_n 2, 1), (.aload_n 0, 1)] (by decide +kernel) (pc' := 14) (L' := [.val (.ref a), .val (.int (ch8 c)), .val (.int (Int32.ofNat i))]) (S' := [.ref a, .int (Int32.ofNat i), .int (ch8 c), .ref b]) rfl ?_
  refine wp_invokevirtual C (M18 hw) d18_14 (M2 hw) (Cl := "java/lang/String") (w99 hw) (w90 hw) (w92 hw) (w91 hw) (Or.inl ⟨_, (w92 hw)⟩) (by decide) (b := a) ho (S' := [.int (Int32.ofNat i), .int (ch8 c), .ref b]) [] (lenOf pd2 rfl) rfl (L' := [.val (.ref a)]) rfl rfl (hR.push (d' := 1) (w' := 12) (Nat.le_of_ble_eq_true rfl) (Nat.le_of_ble_eq_true rfl)) ?_
  refine c_len C hw hs (Meth.caller (M18 hw) d18_14) (hR.push (d' := 2) (w' := 25) (Nat.le_of_ble_eq_true rfl) (Nat.le_of_ble_eq_true rfl)) st0 ?_
  refine wp_invokestatic C (M18 hw) d18_17 (M17 hw) (w100 hw) (w101 hw) (w31 hw) (by decide) (S' := []) [.ref b, .int (ch8 c), .int (Int32.ofNat i), .int (Int32.ofNat us.length)] (lenOf pd17 rfl) rfl (L' := [.val (.ref b), .val (.int (ch8 c)), .val (.int (Int32.ofNat i)), .val (.int (Int32.ofNat us.length))]) rfl rfl (hR.push (d' := 1) (w' := 15) (Nat.le_of_ble_eq_true rfl) (Nat.le_of_ble_eq_true rfl)) ?_
  refine c_lix C hw hl hi (Meth.caller (M18 hw) d18_17) (hR.push (d' := 2) (w' := 32) (Nat.le_of_ble_eq_true rfl) (Nat.le_of_ble_eq_true rfl)) hb ?_
  refine wp_seg C (M18 hw) [(.goto 16, 3)] (by decide +kernel) (pc' := 36) (L' := [.val (.ref a), .val (.int (ch8 c)), .val (.int (Int32.ofNat i))]) (S' := [.int (ixc us c (us.length - i) i)]) rfl ?_
  exact wp_iret C (M18 hw) d18_36 rfl (t := .int) (by decide) rfl Cr K
theorem c_pft {κ : Cx} (C : Ok κ) (hw : Ws κ) {i j m : Int32} {fv : Value} (hfv : fv.isRef = true) (h0 : ¬ i < 0) (h1 : ¬ j < i) (h2 : ¬ m < j) {yc : MethodName} {pcc : Nat} {Lc : List Slot} {Sc : List Value} {F : List Frame} {l : List Chunk} {k n : Nat} (Cr : Caller κ yc pcc 3)  (K : WP κ yc (pcc + 3) Lc (.int i :: Sc) F (l) k n) :
    WP κ y19 0 [.val (.int i), .val (.int j), .val (.int m), .val fv] [] (fr κ yc pcc Lc Sc :: F) (l) k n := by
  rcases ref_cases hfv with rfl | ⟨r, rfl⟩
  · refine wp_seg C (M19 hw) [(.iload_n 0, 1)] (by decide +kernel) (pc' := 1) (L' := [.val (.int i), .val (.int j), .val (.int m), .val (.null)]) (S' := [.int i]) rfl ?_
    refine wp_iff C (M19 hw) d19_1 (XT.i0_lt_f h0) ?_
    refine wp_seg C (M19 hw) [(.iload_n 0, 1), (.iload_n 1, 1)] (by decide +kernel) (pc' := 6) (L' := [.val (.int i), .val (.int j), .val (.int m), .val (.null)]) (S' := [.int j, .int i]) rfl ?_
    refine wp_icf C (M19 hw) d19_6 (XT.ii_gt_f h1) ?_
    refine wp_seg C (M19 hw) [(.iload_n 1, 1), (.iload_n 2, 1)] (by decide +kernel) (pc' := 11) (L' := [.val (.int i), .val (.int j), .val (.int m), .val (.null)]) (S' := [.int m, .int j]) rfl ?_
    refine wp_ict C (M19 hw) d19_11 (XT.ii_le_t h2) (pc' := 22) (by decide) ?_
    refine wp_seg C (M19 hw) [(.iload_n 0, 1)] (by decide +kernel) (pc' := 23) (L' := [.val (.int i), .val (.int j), .val (.int m), .val (.null)]) (S' := [.int i]) rfl ?_
    exact wp_iret C (M19 hw) d19_23 rfl (t := .int) (by decide) rfl Cr K
  · refine wp_seg C (M19 hw) [(.iload_n 0, 1)] (by decide +kernel) (pc' := 1) (L' := [.val (.int i), .val (.int j), .val (.int m), .val (.ref r)]) (S' := [.int i]) rfl ?_
    refine wp_iff C (M19 hw) d19_1 (XT.i0_lt_f h0) ?_
    refine wp_seg C (M19 hw) [(.iload_n 0, 1), (.iload_n 1, 1)] (by decide +kernel) (pc' := 6) (L' := [.val (.int i), .val (.int j), .val (.int m), .val (.ref r)]) (S' := [.int j, .int i]) rfl ?_
    refine wp_icf C (M19 hw) d19_6 (XT.ii_gt_f h1) ?_
    refine wp_seg C (M19 hw) [(.iload_n 1, 1), (.iload_n 2, 1)] (by decide +kernel) (pc' := 11) (L' := [.val (.int i), .val (.int j), .val (.int m), .val (.ref r)]) (S' := [.int m, .int j]) rfl ?_
    refine wp_ict C (M19 hw) d19_11 (XT.ii_le_t h2) (pc' := 22) (by decide) ?_
    refine wp_seg C (M19 hw) [(.iload_n 0, 1)] (by decide +kernel) (pc' := 23) (L' := [.val (.int i), .val (.int j), .val (.int m), .val (.ref r)]) (S' := [.int i]) rfl ?_
    exact wp_iret C (M19 hw) d19_23 rfl (t := .int) (by decide) rfl Cr K
theorem c_cbe {κ : Cx} (C : Ok κ) (hw : Ws κ) (hs : StrS κ) {i j m : Int32} (h0 : ¬ i < 0) (h1 : ¬ j < i) (h2 : ¬ m < j) {yc : MethodName} {pcc : Nat} {Lc : List Slot} {Sc : List Value} {F : List Frame} {l : List Chunk} {k n : Nat} (Cr : Caller κ yc pcc 3) (hR : Rm κ (fr κ yc pcc Lc Sc :: F) 2 29)  (K : WP κ yc (pcc + 3) Lc Sc F (l) k n) :
    WP κ y20 0 [.val (.int i), .val (.int j), .val (.int m)] [] (fr κ yc pcc Lc Sc :: F) (l) k n := by
  obtain ⟨⟨cz, hcs, scs⟩, fv, hfv, sfv⟩ := hs
  have hfv2 := hfv
  rcases ref_cases hfv with rfl | ⟨r, rfl⟩
  · refine wp_seg C (M20 hw) [(.iload_n 0, 1), (.iload_n 1, 1), (.iload_n 2, 1)] (by decide +kernel) (pc' := 3) (L' := [.val (.int i), .val (.int j), .val (.int m)]) (S' := [.int m, .int j, .int i]) rfl ?_
    refine wp_getstatic C (M20 hw) d20_3 (w36 hw) (Or.inl rfl) sfv ?_
    refine wp_invokestatic C (M20 hw) d20_6 (M19 hw) (w124 hw) (w125 hw) (w37 hw) (by decide) (S' := []) [.int i, .int j, .int m, .null] (lenOf pd19 rfl) rfl (L' := [.val (.int i), .val (.int j), .val (.int m), .val (.null)]) rfl rfl (hR.push (d' := 1) (w' := 15) (Nat.le_of_ble_eq_true rfl) (Nat.le_of_ble_eq_true rfl)) ?_
    refine c_pft C hw hfv2 h0 h1 h2 (Meth.caller (M20 hw) d20_6)  ?_
    refine wp_seg C (M20 hw) [(.pop, 1)] (by decide +kernel) (pc' := 10) (L' := [.val (.int i), .val (.int j), .val (.int m)]) (S' := []) rfl ?_
    exact wp_vret C (M20 hw) d20_10 Cr K
  · refine wp_seg C (M20 hw) [(.iload_n 0, 1), (.iload_n 1, 1), (.iload_n 2, 1)] (by decide +kernel) (pc' := 3) (L' := [.val (.int i), .val (.int j), .val (.int m)]) (S' := [.int m, .int j, .int i]) rfl ?_
    refine wp_getstatic C (M20 hw) d20_3 (w36 hw) (Or.inl rfl) sfv ?_
    refine wp_invokestatic C (M20 hw) d20_6 (M19 hw) (w124 hw) (w125 hw) (w37 hw) (by decide) (S' := []) [.int i, .int j, .int m, .ref r] (lenOf pd19 rfl) rfl (L' := [.val (.int i), .val (.int j), .val (.int m), .val (.ref r)]) rfl rfl (hR.push (d' := 1) (w' := 15) (Nat.le_of_ble_eq_true rfl) (Nat.le_of_ble_eq_true rfl)) ?_
    refine c_pft C hw hfv2 h0 h1 h2 (Meth.caller (M20 hw) d20_6)  ?_
    refine wp_seg C (M20 hw) [(.pop, 1)] (by decide +kernel) (pc' := 10) (L' := [.val (.int i), .val (.int j), .val (.int m)]) (S' := []) rfl ?_
    exact wp_vret C (M20 hw) d20_10 Cr K
theorem c_clen {κ : Cx} (C : Ok κ) (hw : Ws κ) {i j : Int32} (h : ¬ j < i) {yc : MethodName} {pcc : Nat} {Lc : List Slot} {Sc : List Value} {F : List Frame} {l : List Chunk} {k n : Nat} (Cr : Caller κ yc pcc 3)  (K : WP κ yc (pcc + 3) Lc Sc F (l) k n) :
    WP κ y21 0 [.val (.int i), .val (.int j)] [] (fr κ yc pcc Lc Sc :: F) (l) k n := by
  refine wp_seg C (M21 hw) [(.iload_n 1, 1), (.iload_n 0, 1)] (by decide +kernel) (pc' := 2) (L' := [.val (.int i), .val (.int j)]) (S' := [.int i, .int j]) rfl ?_
  refine wp_ict C (M21 hw) d21_2 (XT.ii_ge_t h) (pc' := 37) (by decide) ?_
  exact wp_vret C (M21 hw) d21_37 Cr K
theorem c_corb {κ : Cx} (C : Ok κ) (hw : Ws κ) {b : Addr} {us : List UInt8} {i m : Nat} (hl : us.length < 2 ^ 31) (h1 : i + m ≤ us.length) (hbb : m * 8 ≤ 536870912) {yc : MethodName} {pcc : Nat} {Lc : List Slot} {Sc : List Value} {F : List Frame} {l : List Chunk} {k n : Nat} (Cr : Caller κ yc pcc 3) (hR : Rm κ (fr κ yc pcc Lc Sc :: F) 2 56) (hb : strB b us ∈ l) (hk : k + 1 ≤ (kR κ).cells) (hn : n + m ≤ (kR κ).slots) (K : ∀ c, WP κ yc (pcc + 3) Lc (.ref c :: Sc) F ((c, true, .inr (.byte, ((us.drop i).take m).map byv)) :: l) (k + 1) (n + m)) :
    WP κ y22 0 [.val (.ref b), .val (.int (Int32.ofNat i)), .val (.int (Int32.ofNat (i + m))), .unset, .unset] [] (fr κ yc pcc Lc Sc :: F) (l) k n := by
  refine wp_seg C (M22 hw) [(.iload_n 1, 1), (.iload_n 2, 1)] (by decide +kernel) (pc' := 2) (L' := [.val (.ref b), .val (.int (Int32.ofNat i)), .val (.int (Int32.ofNat (i + m))), .unset, .unset]) (S' := [.int (Int32.ofNat (i + m)), .int (Int32.ofNat i)]) rfl ?_
  refine wp_invokestatic C (M22 hw) d22_2 (M21 hw) (w138 hw) (w139 hw) (w133 hw) (by decide) (S' := []) [.int (Int32.ofNat i), .int (Int32.ofNat (i + m))] (lenOf pd21 rfl) rfl (L' := [.val (.int (Int32.ofNat i)), .val (.int (Int32.ofNat (i + m)))]) rfl rfl (hR.push (d' := 1) (w' := 13) (Nat.le_of_ble_eq_true rfl) (Nat.le_of_ble_eq_true rfl)) ?_
  refine c_clen C hw (fun q => by have := (lt32 (by omega) (by omega)).mp q; omega) (Meth.caller (M22 hw) d22_2)  ?_
  refine wp_seg C (M22 hw) [(.iload_n 2, 1), (.iload_n 1, 1), (.isub, 1), (.istore_n 3, 1), (.iload_n 3, 1)] (by decide +kernel) (pc' := 10) (L' := [.val (.ref b), .val (.int (Int32.ofNat i)), .val (.int (Int32.ofNat (i + m))), .val (.int ((Int32.ofNat (i + m)) - (Int32.ofNat i))), .unset]) (S' := [.int ((Int32.ofNat (i + m)) - (Int32.ofNat i))]) rfl ?_
  rw [sub32n (show i ≤ i + m by omega), show i + m - i = m from by omega]
  refine wp_newarray C (M22 hw) d22_10 rfl (w11 hw) (len := m) (Ix32 (by omega)) hbb hk hn (vs := List.replicate m (.int 0)) rfl fun a1 => ?_
  refine wp_seg C (M22 hw) [(.astore 4, 2), (.aload_n 0, 1), (.iload_n 1, 1), (.aload 4, 2), (.iconst 0, 1), (.aload_n 0, 1)] (by decide +kernel) (pc' := 20) (L' := [.val (.ref b), .val (.int (Int32.ofNat i)), .val (.int (Int32.ofNat (i + m))), .val (.int (Int32.ofNat m)), .val (.ref a1)]) (S' := [.ref b, .int 0, .ref a1, .int (Int32.ofNat i), .ref b]) rfl ?_
  refine wp_arraylength C (M22 hw) d22_20 (a := b) (List.Mem.tail _ hb) (z := (Int32.ofNat us.length)) (by simp) ?_
  refine wp_seg C (M22 hw) [(.iload_n 1, 1), (.isub, 1), (.iload_n 3, 1)] (by decide +kernel) (pc' := 24) (L' := [.val (.ref b), .val (.int (Int32.ofNat i)), .val (.int (Int32.ofNat (i + m))), .val (.int (Int32.ofNat m)), .val (.ref a1)]) (S' := [.int (Int32.ofNat m), .int ((Int32.ofNat us.length) - (Int32.ofNat i)), .int 0, .ref a1, .int (Int32.ofNat i), .ref b]) rfl ?_
  rw [sub32n (show i ≤ us.length by omega)]
  by_cases hq : us.length - i = m
  · refine wp_invokestatic C (M22 hw) d22_24 (M14 hw) (w141 hw) (w111 hw) (w108 hw) (by decide) (S' := [.int 0, .ref a1, .int (Int32.ofNat i), .ref b]) [.int (Int32.ofNat (us.length - i)), .int (Int32.ofNat m)] (lenOf pd14 rfl) rfl (L' := [.val (.int (Int32.ofNat (us.length - i))), .val (.int (Int32.ofNat m))]) rfl rfl (hR.push (d' := 1) (w' := 13) (Nat.le_of_ble_eq_true rfl) (Nat.le_of_ble_eq_true rfl)) ?_
    refine c_min1 C hw (by rw [hq]; exact Int32.lt_irrefl) (Meth.caller (M22 hw) d22_24)  ?_
    rw [hq]
    rw [byte0]
    refine wp_copy C (M22 hw) d22_27 (w142 hw) (w145 hw) (w143 hw) (w144 hw) (i := 0) (p := i) (q := 0) (m := m) rfl (List.Mem.tail _ hb) rfl (by simpa using hl) (by simp; omega) (byv_all _) (byv_all _) (by simpa using h1) (by simp) (hR.push (d' := 1) (w' := 40) (Nat.le_of_ble_eq_true rfl) (Nat.le_of_ble_eq_true rfl)) (l' := (a1, true, .inr (.byte, ((us.drop i).take m).map byv)) :: l) (by rw [copy_all h1]; rfl) ?_
    refine wp_seg C (M22 hw) [(.aload 4, 2)] (by decide +kernel) (pc' := 32) (L' := [.val (.ref b), .val (.int (Int32.ofNat i)), .val (.int (Int32.ofNat (i + m))), .val (.int (Int32.ofNat m)), .val (.ref a1)]) (S' := [.ref a1]) rfl ?_
    exact wp_aret C (M22 hw) d22_32 rfl (t := .array .byte) rfl rfl Cr (K a1)
  · refine wp_invokestatic C (M22 hw) d22_24 (M14 hw) (w141 hw) (w111 hw) (w108 hw) (by decide) (S' := [.int 0, .ref a1, .int (Int32.ofNat i), .ref b]) [.int (Int32.ofNat (us.length - i)), .int (Int32.ofNat m)] (lenOf pd14 rfl) rfl (L' := [.val (.int (Int32.ofNat (us.length - i))), .val (.int (Int32.ofNat m))]) rfl rfl (hR.push (d' := 1) (w' := 13) (Nat.le_of_ble_eq_true rfl) (Nat.le_of_ble_eq_true rfl)) ?_
    refine c_min2 C hw ((lt32 (by omega) (by omega)).mpr (by omega)) (Meth.caller (M22 hw) d22_24)  ?_
    rw [byte0]
    refine wp_copy C (M22 hw) d22_27 (w142 hw) (w145 hw) (w143 hw) (w144 hw) (i := 0) (p := i) (q := 0) (m := m) rfl (List.Mem.tail _ hb) rfl (by simpa using hl) (by simp; omega) (byv_all _) (byv_all _) (by simpa using h1) (by simp) (hR.push (d' := 1) (w' := 40) (Nat.le_of_ble_eq_true rfl) (Nat.le_of_ble_eq_true rfl)) (l' := (a1, true, .inr (.byte, ((us.drop i).take m).map byv)) :: l) (by rw [copy_all h1]; rfl) ?_
    refine wp_seg C (M22 hw) [(.aload 4, 2)] (by decide +kernel) (pc' := 32) (L' := [.val (.ref b), .val (.int (Int32.ofNat i)), .val (.int (Int32.ofNat (i + m))), .val (.int (Int32.ofNat m)), .val (.ref a1)]) (S' := [.ref a1]) rfl ?_
    exact wp_aret C (M22 hw) d22_32 rfl (t := .array .byte) rfl rfl Cr (K a1)
theorem c_cor {κ : Cx} (C : Ok κ) (hw : Ws κ) {b : Addr} {us : List UInt8} {i m : Nat} (hl : us.length < 2 ^ 31) (h1 : i + m ≤ us.length) (hbb : m * 8 ≤ 536870912) (hne : ¬ (i = 0 ∧ m = us.length)) {yc : MethodName} {pcc : Nat} {Lc : List Slot} {Sc : List Value} {F : List Frame} {l : List Chunk} {k n : Nat} (Cr : Caller κ yc pcc 3) (hR : Rm κ (fr κ yc pcc Lc Sc :: F) 3 70) (hb : strB b us ∈ l) (hk : k + 1 ≤ (kR κ).cells) (hn : n + m ≤ (kR κ).slots) (K : ∀ c, WP κ yc (pcc + 3) Lc (.ref c :: Sc) F ((c, true, .inr (.byte, ((us.drop i).take m).map byv)) :: l) (k + 1) (n + m)) :
    WP κ y23 0 [.val (.ref b), .val (.int (Int32.ofNat i)), .val (.int (Int32.ofNat (i + m)))] [] (fr κ yc pcc Lc Sc :: F) (l) k n := by
  refine wp_seg C (M23 hw) [(.iload_n 1, 1)] (by decide +kernel) (pc' := 1) (L' := [.val (.ref b), .val (.int (Int32.ofNat i)), .val (.int (Int32.ofNat (i + m)))]) (S' := [.int (Int32.ofNat i)]) rfl ?_
  by_cases hq : i = 0
  · refine wp_iff C (M23 hw) d23_1 (XT.i0_ne_f ((eq32 (b := 0) (by omega) (by decide)).mpr hq)) ?_
    refine wp_seg C (M23 hw) [(.iload_n 2, 1), (.aload_n 0, 1)] (by decide +kernel) (pc' := 6) (L' := [.val (.ref b), .val (.int (Int32.ofNat i)), .val (.int (Int32.ofNat (i + m)))]) (S' := [.ref b, .int (Int32.ofNat (i + m))]) rfl ?_
    refine wp_arraylength C (M23 hw) d23_6 (a := b) hb (z := (Int32.ofNat us.length)) (by simp) ?_
    refine wp_icf C (M23 hw) d23_7 (XT.ii_eq_f (fun q => hne (by have := (eq32 (by omega) hl).mp q; omega))) ?_
    refine wp_seg C (M23 hw) [(.aload_n 0, 1), (.iload_n 1, 1), (.iload_n 2, 1)] (by decide +kernel) (pc' := 13) (L' := [.val (.ref b), .val (.int (Int32.ofNat i)), .val (.int (Int32.ofNat (i + m)))]) (S' := [.int (Int32.ofNat (i + m)), .int (Int32.ofNat i), .ref b]) rfl ?_
    refine wp_invokestatic C (M23 hw) d23_13 (M22 hw) (w135 hw) (w136 hw) (w133 hw) (by decide) (S' := []) [.ref b, .int (Int32.ofNat i), .int (Int32.ofNat (i + m))] (lenOf pd22 rfl) rfl (L' := [.val (.ref b), .val (.int (Int32.ofNat i)), .val (.int (Int32.ofNat (i + m))), .unset, .unset]) rfl rfl (hR.push (d' := 1) (w' := 16) (Nat.le_of_ble_eq_true rfl) (Nat.le_of_ble_eq_true rfl)) ?_
    refine c_corb C hw hl h1 hbb (Meth.caller (M23 hw) d23_13) (hR.push (d' := 2) (w' := 56) (Nat.le_of_ble_eq_true rfl) (Nat.le_of_ble_eq_true rfl)) hb hk hn fun c => ?_
    exact wp_aret C (M23 hw) d23_16 rfl (t := .array .byte) rfl rfl Cr (K c)
  · refine wp_ift C (M23 hw) d23_1 (XT.i0_ne_t (fun q => hq ((eq32 (b := 0) (by omega) (by decide)).mp q))) (pc' := 10) (by decide) ?_
    refine wp_seg C (M23 hw) [(.aload_n 0, 1), (.iload_n 1, 1), (.iload_n 2, 1)] (by decide +kernel) (pc' := 13) (L' := [.val (.ref b), .val (.int (Int32.ofNat i)), .val (.int (Int32.ofNat (i + m)))]) (S' := [.int (Int32.ofNat (i + m)), .int (Int32.ofNat i), .ref b]) rfl ?_
    refine wp_invokestatic C (M23 hw) d23_13 (M22 hw) (w135 hw) (w136 hw) (w133 hw) (by decide) (S' := []) [.ref b, .int (Int32.ofNat i), .int (Int32.ofNat (i + m))] (lenOf pd22 rfl) rfl (L' := [.val (.ref b), .val (.int (Int32.ofNat i)), .val (.int (Int32.ofNat (i + m))), .unset, .unset]) rfl rfl (hR.push (d' := 1) (w' := 16) (Nat.le_of_ble_eq_true rfl) (Nat.le_of_ble_eq_true rfl)) ?_
    refine c_corb C hw hl h1 hbb (Meth.caller (M23 hw) d23_13) (hR.push (d' := 2) (w' := 56) (Nat.le_of_ble_eq_true rfl) (Nat.le_of_ble_eq_true rfl)) hb hk hn fun c => ?_
    exact wp_aret C (M23 hw) d23_16 rfl (t := .array .byte) rfl rfl Cr (K c)
theorem c_initb {κ : Cx} (C : Ok κ) (hw : Ws κ) {a c : Addr} {us : List UInt8} {yc : MethodName} {pcc : Nat} {Lc : List Slot} {Sc : List Value} {F : List Frame} {l : List Chunk} {k n : Nat} (Cr : Caller κ yc pcc 3) (hR : Rm κ (fr κ yc pcc Lc Sc :: F) 2 26) (hc : strB c us ∈ l) (K : WP κ yc (pcc + 3) Lc Sc F (strO a c 0 :: l) k n) :
    WP κ y24 0 [.val (.ref a), .val (.ref c), .val (.int 0)] [] (fr κ yc pcc Lc Sc :: F) ((a, true, .inl ("java/lang/String", [("java/lang/String", "value", "[B", .null), ("java/lang/String", "coder", "B", .int 0)])) :: l) k n := by
  refine wp_seg C (M24 hw) [(.aload_n 0, 1)] (by decide +kernel) (pc' := 1) (L' := [.val (.ref a), .val (.ref c), .val (.int 0)]) (S' := [.ref a]) rfl ?_
  refine wp_initObject C (M24 hw) d24_1 (w52 hw) (w53 hw) (w54 hw) (hR.push (d' := 1) (w' := 12) (Nat.le_of_ble_eq_true rfl) (Nat.le_of_ble_eq_true rfl)) ?_
  refine wp_seg C (M24 hw) [(.aload_n 0, 1), (.aload_n 1, 1)] (by decide +kernel) (pc' := 6) (L' := [.val (.ref a), .val (.ref c), .val (.int 0)]) (S' := [.ref c, .ref a]) rfl ?_
  refine wp_putfield C (M24 hw) d24_6 (w28 hw) (Or.inl rfl) (i := 0) (j := 0) rfl rfl (Or.inr ⟨(w12 hw), rfl, rfl⟩) (w10 hw) (ty := .array (.byte)) (by decide) rfl rfl (l' := (a, true, .inl ("java/lang/String", [("java/lang/String", "value", "[B", .ref c), ("java/lang/String", "coder", "B", .int 0)])) :: l) rfl ?_
  refine wp_seg C (M24 hw) [(.aload_n 0, 1), (.iload_n 2, 1)] (by decide +kernel) (pc' := 11) (L' := [.val (.ref a), .val (.ref c), .val (.int 0)]) (S' := [.int 0, .ref a]) rfl ?_
  refine wp_putfield C (M24 hw) d24_11 (w27 hw) (Or.inl rfl) (i := 0) (j := 1) rfl rfl (Or.inr ⟨(w13 hw), rfl, rfl⟩) (w10 hw) (ty := .byte) (by decide) rfl rfl (l' := (a, true, .inl ("java/lang/String", [("java/lang/String", "value", "[B", .ref c), ("java/lang/String", "coder", "B", .int 0)])) :: l) rfl ?_
  refine wp_freeze ?_
  exact wp_vret C (M24 hw) d24_14 Cr K
theorem c_news {κ : Cx} (C : Ok κ) (hw : Ws κ) (hst : kS κ = false) (wS : StrW κ) (hE : kE κ = consts_1) {b : Addr} {us : List UInt8} {i m : Nat} (hl : us.length < 2 ^ 31) (h1 : i + m ≤ us.length) (hbb : m * 8 ≤ 536870912) (hne : ¬ (i = 0 ∧ m = us.length)) {yc : MethodName} {pcc : Nat} {Lc : List Slot} {Sc : List Value} {F : List Frame} {l : List Chunk} {k n : Nat} (Cr : Caller κ yc pcc 3) (hR : Rm κ (fr κ yc pcc Lc Sc :: F) 4 86) (hb : strB b us ∈ l) (hk : k + 2 ≤ (kR κ).cells) (hn : n + (m + 4) ≤ (kR κ).slots) (K : ∀ a b, WP κ yc (pcc + 3) Lc (.ref a :: Sc) F (strO a b 0 :: strB b ((us.drop i).take m) :: l) (k + 2) (n + (m + 4))) :
    WP κ y25 0 [.val (.ref b), .val (.int (Int32.ofNat i)), .val (.int (Int32.ofNat m))] [] (fr κ yc pcc Lc Sc :: F) (l) k n := by
  refine wp_seg C (M25 hw) [(.iload_n 2, 1)] (by decide +kernel) (pc' := 1) (L' := [.val (.ref b), .val (.int (Int32.ofNat i)), .val (.int (Int32.ofNat m))]) (S' := [.int (Int32.ofNat m)]) rfl ?_
  by_cases hq : m = 0
  · refine wp_iff C (M25 hw) d25_1 (XT.i0_ne_f ((eq32 (b := 0) (by omega) (by decide)).mpr hq)) ?_
    refine wp_ldcS C hst wS (M25 hw) d25_4 (w153 hw) (by rw [hE]; exact List.mem_of_getElem? (i := 5) rfl) [] (by decide +kernel) (m := 0) (by decide) (by decide) (Nat.le_trans (by omega) hk) (Nat.le_trans (by omega) hn) fun s1 s2 => ?_
    rw [hq, List.take_zero] at K
    exact wp_aret C (M25 hw) d25_6 rfl (t := .object "java/lang/String") rfl rfl Cr (K s1 s2)
  · refine wp_ift C (M25 hw) d25_1 (XT.i0_ne_t (fun q => hq ((eq32 (b := 0) (by omega) (by decide)).mp q))) (pc' := 7) (by decide) ?_
    refine wp_new C (M25 hw) d25_7 (w130 hw) (w10 hw) (w9 hw) (cls_Str hw) (Nat.le_trans (by omega) hk) (Nat.le_trans (by omega) hn) fun a3 => ?_
    refine wp_seg C (M25 hw) [(.dup, 1), (.aload_n 0, 1), (.iload_n 1, 1), (.iload_n 1, 1), (.iload_n 2, 1), (.iadd, 1)] (by decide +kernel) (pc' := 16) (L' := [.val (.ref b), .val (.int (Int32.ofNat i)), .val (.int (Int32.ofNat m))]) (S' := [.int ((Int32.ofNat i) + (Int32.ofNat m)), .int (Int32.ofNat i), .ref b, .ref a3, .ref a3]) rfl ?_
    rw [add32n]
    refine wp_invokestatic C (M25 hw) d25_16 (M23 hw) (w131 hw) (w132 hw) (w133 hw) (by decide) (S' := [.ref a3, .ref a3]) [.ref b, .int (Int32.ofNat i), .int (Int32.ofNat (i + m))] (lenOf pd23 rfl) rfl (L' := [.val (.ref b), .val (.int (Int32.ofNat i)), .val (.int (Int32.ofNat (i + m)))]) rfl rfl (hR.push (d' := 1) (w' := 14) (Nat.le_of_ble_eq_true rfl) (Nat.le_of_ble_eq_true rfl)) ?_
    refine c_cor C hw hl h1 hbb hne (Meth.caller (M25 hw) d25_16) (hR.push (d' := 3) (w' := 70) (Nat.le_of_ble_eq_true rfl) (Nat.le_of_ble_eq_true rfl)) (List.Mem.tail _ hb) (Nat.le_trans (by omega) hk) (Nat.le_trans (by omega) hn) fun c => ?_
    refine wp_seg C (M25 hw) [(.iconst 0, 1)] (by decide +kernel) (pc' := 20) (L' := [.val (.ref b), .val (.int (Int32.ofNat i)), .val (.int (Int32.ofNat m))]) (S' := [.int 0, .ref c, .ref a3, .ref a3]) rfl ?_
    refine wp_freeze ?_
    refine wp_front 1 rfl rfl ?_
    refine wp_init C (M25 hw) d25_20 (M24 hw) rfl (w146 hw) (w147 hw) (by decide) (S' := [.ref a3]) a3 [.ref c, .int 0] (lenOf pd24 rfl) rfl (L' := [.val (.ref a3), .val (.ref c), .val (.int 0)]) rfl rfl (hR.push (d' := 1) (w' := 14) (Nat.le_of_ble_eq_true rfl) (Nat.le_of_ble_eq_true rfl)) ?_
    refine c_initb C hw (us := ((us.drop i).take m)) (Meth.caller (M25 hw) d25_20) (hR.push (d' := 2) (w' := 26) (Nat.le_of_ble_eq_true rfl) (Nat.le_of_ble_eq_true rfl)) (List.mem_of_getElem? (i := 0) rfl) ?_
    rw [show n + 4 + m = n + (m + 4) from by omega]
    exact wp_aret C (M25 hw) d25_23 rfl (t := .object "java/lang/String") rfl rfl Cr (K a3 c)
theorem c_sub {κ : Cx} (C : Ok κ) (hw : Ws κ) (hs : StrS κ) (hst : kS κ = false) (wS : StrW κ) (hE : kE κ = consts_1) {a : Addr} {us : List UInt8} {i m : Nat} (hl : us.length < 2 ^ 31) (h1 : i + m ≤ us.length) (hbb : m * 8 ≤ 536870912) {yc : MethodName} {pcc : Nat} {Lc : List Slot} {Sc : List Value} {F : List Frame} {l : List Chunk} {k n : Nat} (Cr : Caller κ yc pcc 3) (hR : Rm κ (fr κ yc pcc Lc Sc :: F) 5 102) (st : Str l a us) (hk : k + 2 ≤ (kR κ).cells) (hn : n + (m + 4) ≤ (kR κ).slots) (K : ∀ a b, WP κ yc (pcc + 3) Lc (.ref a :: Sc) F (strO a b 0 :: strB b ((us.drop i).take m) :: l) (k + 2) (n + (m + 4))) :
    WP κ y26 0 [.val (.ref a), .val (.int (Int32.ofNat i)), .val (.int (Int32.ofNat (i + m))), .unset, .unset] [] (fr κ yc pcc Lc Sc :: F) (l) k n := by
  have st0 := st
  obtain ⟨b, ho, hb⟩ := st
  refine wp_seg C (M26 hw) [(.aload_n 0, 1)] (by decide +kernel) (pc' := 1) (L' := [.val (.ref a), .val (.int (Int32.ofNat i)), .val (.int (Int32.ofNat (i + m))), .unset, .unset]) (S' := [.ref a]) rfl ?_
  refine wp_invokevirtual C (M26 hw) d26_1 (M2 hw) (Cl := "java/lang/String") (w99 hw) (w90 hw) (w92 hw) (w91 hw) (Or.inl ⟨_, (w92 hw)⟩) (by decide) (b := a) ho (S' := []) [] (lenOf pd2 rfl) rfl (L' := [.val (.ref a)]) rfl rfl (hR.push (d' := 1) (w' := 12) (Nat.le_of_ble_eq_true rfl) (Nat.le_of_ble_eq_true rfl)) ?_
  refine c_len C hw hs (Meth.caller (M26 hw) d26_1) (hR.push (d' := 2) (w' := 25) (Nat.le_of_ble_eq_true rfl) (Nat.le_of_ble_eq_true rfl)) st0 ?_
  refine wp_seg C (M26 hw) [(.istore_n 3, 1), (.iload_n 1, 1), (.iload_n 2, 1), (.iload_n 3, 1)] (by decide +kernel) (pc' := 8) (L' := [.val (.ref a), .val (.int (Int32.ofNat i)), .val (.int (Int32.ofNat (i + m))), .val (.int (Int32.ofNat us.length)), .unset]) (S' := [.int (Int32.ofNat us.length), .int (Int32.ofNat (i + m)), .int (Int32.ofNat i)]) rfl ?_
  refine wp_invokestatic C (M26 hw) d26_8 (M20 hw) (w121 hw) (w122 hw) (w9 hw) (by decide) (S' := []) [.int (Int32.ofNat i), .int (Int32.ofNat (i + m)), .int (Int32.ofNat us.length)] (lenOf pd20 rfl) rfl (L' := [.val (.int (Int32.ofNat i)), .val (.int (Int32.ofNat (i + m))), .val (.int (Int32.ofNat us.length))]) rfl rfl (hR.push (d' := 1) (w' := 14) (Nat.le_of_ble_eq_true rfl) (Nat.le_of_ble_eq_true rfl)) ?_
  refine c_cbe C hw hs (nn32 (by omega)) (min32_1 (by omega) (by omega) (by omega)) (min32_1 (by omega) (by omega) (by omega)) (Meth.caller (M26 hw) d26_8) (hR.push (d' := 2) (w' := 29) (Nat.le_of_ble_eq_true rfl) (Nat.le_of_ble_eq_true rfl))  ?_
  refine wp_seg C (M26 hw) [(.iload_n 1, 1)] (by decide +kernel) (pc' := 12) (L' := [.val (.ref a), .val (.int (Int32.ofNat i)), .val (.int (Int32.ofNat (i + m))), .val (.int (Int32.ofNat us.length)), .unset]) (S' := [.int (Int32.ofNat i)]) rfl ?_
  by_cases hne : i = 0 ∧ m = us.length
  · refine wp_iff C (M26 hw) d26_12 (XT.i0_ne_f ((eq32 (b := 0) (by omega) (by decide)).mpr hne.1)) ?_
    refine wp_seg C (M26 hw) [(.iload_n 2, 1), (.iload_n 3, 1)] (by decide +kernel) (pc' := 17) (L' := [.val (.ref a), .val (.int (Int32.ofNat i)), .val (.int (Int32.ofNat (i + m))), .val (.int (Int32.ofNat us.length)), .unset]) (S' := [.int (Int32.ofNat us.length), .int (Int32.ofNat (i + m))]) rfl ?_
    refine wp_icf C (M26 hw) d26_17 (XT.ii_ne_f ((eq32 (by omega) hl).mpr (by omega))) ?_
    refine wp_seg C (M26 hw) [(.aload_n 0, 1)] (by decide +kernel) (pc' := 21) (L' := [.val (.ref a), .val (.int (Int32.ofNat i)), .val (.int (Int32.ofNat (i + m))), .val (.int (Int32.ofNat us.length)), .unset]) (S' := [.ref a]) rfl ?_
    rw [hne.1, hne.2, List.drop_zero, List.take_length] at K
    refine wp_dup hb rfl ?_
    refine wp_dup (List.Mem.tail _ ho) rfl ?_
    refine wp_room (k' := k + 2) (n' := n + (us.length + 4)) (by omega) (by omega) hk (by rw [hne.2] at hn; exact hn) ?_
    exact wp_aret C (M26 hw) d26_21 rfl (t := .object "java/lang/String") rfl rfl Cr (K a b)
  · by_cases hq : i = 0
    · refine wp_iff C (M26 hw) d26_12 (XT.i0_ne_f ((eq32 (b := 0) (by omega) (by decide)).mpr hq)) ?_
      refine wp_seg C (M26 hw) [(.iload_n 2, 1), (.iload_n 3, 1)] (by decide +kernel) (pc' := 17) (L' := [.val (.ref a), .val (.int (Int32.ofNat i)), .val (.int (Int32.ofNat (i + m))), .val (.int (Int32.ofNat us.length)), .unset]) (S' := [.int (Int32.ofNat us.length), .int (Int32.ofNat (i + m))]) rfl ?_
      refine wp_ict C (M26 hw) d26_17 (XT.ii_ne_t (fun q => hne ⟨hq, by have := (eq32 (by omega) hl).mp q; omega⟩)) (pc' := 22) (by decide) ?_
      refine wp_seg C (M26 hw) [(.iload_n 2, 1), (.iload_n 1, 1), (.isub, 1), (.istore 4, 2), (.aload_n 0, 1)] (by decide +kernel) (pc' := 28) (L' := [.val (.ref a), .val (.int (Int32.ofNat i)), .val (.int (Int32.ofNat (i + m))), .val (.int (Int32.ofNat us.length)), .val (.int ((Int32.ofNat (i + m)) - (Int32.ofNat i)))]) (S' := [.ref a]) rfl ?_
      rw [sub32n (show i ≤ i + m by omega), show i + m - i = m from by omega]
      refine wp_invokevirtual C (M26 hw) d26_28 (M3 hw) (Cl := "java/lang/String") (w21 hw) (w22 hw) (w24 hw) (w23 hw) (Or.inl ⟨_, (w24 hw)⟩) (by decide) (b := a) ho (S' := []) [] (lenOf pd3 rfl) rfl (L' := [.val (.ref a)]) rfl rfl (hR.push (d' := 1) (w' := 12) (Nat.le_of_ble_eq_true rfl) (Nat.le_of_ble_eq_true rfl)) ?_
      refine c_isl C hw hs (Meth.caller (M26 hw) d26_28) ho ?_
      refine wp_iff C (M26 hw) d26_31 (XT.i0_eq_f (by decide)) ?_
      refine wp_seg C (M26 hw) [(.aload_n 0, 1)] (by decide +kernel) (pc' := 35) (L' := [.val (.ref a), .val (.int (Int32.ofNat i)), .val (.int (Int32.ofNat (i + m))), .val (.int (Int32.ofNat us.length)), .val (.int (Int32.ofNat m))]) (S' := [.ref a]) rfl ?_
      refine wp_getfield C (M26 hw) d26_35 (w28 hw) (Or.inl rfl) (a := a) (mu := false) (Cl := "java/lang/String") (fs := [("java/lang/String", "value", "[B", .ref b), ("java/lang/String", "coder", "B", .int 0)]) ho (List.mem_of_getElem? (i := 0) rfl) ?_
      refine wp_seg C (M26 hw) [(.iload_n 1, 1), (.iload 4, 2)] (by decide +kernel) (pc' := 41) (L' := [.val (.ref a), .val (.int (Int32.ofNat i)), .val (.int (Int32.ofNat (i + m))), .val (.int (Int32.ofNat us.length)), .val (.int (Int32.ofNat m))]) (S' := [.int (Int32.ofNat m), .int (Int32.ofNat i), .ref b]) rfl ?_
      refine wp_invokestatic C (M26 hw) d26_41 (M25 hw) (w127 hw) (w128 hw) (w31 hw) (by decide) (S' := []) [.ref b, .int (Int32.ofNat i), .int (Int32.ofNat m)] (lenOf pd25 rfl) rfl (L' := [.val (.ref b), .val (.int (Int32.ofNat i)), .val (.int (Int32.ofNat m))]) rfl rfl (hR.push (d' := 1) (w' := 14) (Nat.le_of_ble_eq_true rfl) (Nat.le_of_ble_eq_true rfl)) ?_
      refine c_news C hw hst wS hE hl h1 hbb hne (Meth.caller (M26 hw) d26_41) (hR.push (d' := 4) (w' := 86) (Nat.le_of_ble_eq_true rfl) (Nat.le_of_ble_eq_true rfl)) hb hk hn fun a' b' => ?_
      refine wp_seg C (M26 hw) [(.goto 13, 3)] (by decide +kernel) (pc' := 57) (L' := [.val (.ref a), .val (.int (Int32.ofNat i)), .val (.int (Int32.ofNat (i + m))), .val (.int (Int32.ofNat us.length)), .val (.int (Int32.ofNat m))]) (S' := [.ref a']) rfl ?_
      exact wp_aret C (M26 hw) d26_57 rfl (t := .object "java/lang/String") rfl rfl Cr (K a' b')
    · refine wp_ift C (M26 hw) d26_12 (XT.i0_ne_t (fun q => hq ((eq32 (b := 0) (by omega) (by decide)).mp q))) (pc' := 22) (by decide) ?_
      refine wp_seg C (M26 hw) [(.iload_n 2, 1), (.iload_n 1, 1), (.isub, 1), (.istore 4, 2), (.aload_n 0, 1)] (by decide +kernel) (pc' := 28) (L' := [.val (.ref a), .val (.int (Int32.ofNat i)), .val (.int (Int32.ofNat (i + m))), .val (.int (Int32.ofNat us.length)), .val (.int ((Int32.ofNat (i + m)) - (Int32.ofNat i)))]) (S' := [.ref a]) rfl ?_
      rw [sub32n (show i ≤ i + m by omega), show i + m - i = m from by omega]
      refine wp_invokevirtual C (M26 hw) d26_28 (M3 hw) (Cl := "java/lang/String") (w21 hw) (w22 hw) (w24 hw) (w23 hw) (Or.inl ⟨_, (w24 hw)⟩) (by decide) (b := a) ho (S' := []) [] (lenOf pd3 rfl) rfl (L' := [.val (.ref a)]) rfl rfl (hR.push (d' := 1) (w' := 12) (Nat.le_of_ble_eq_true rfl) (Nat.le_of_ble_eq_true rfl)) ?_
      refine c_isl C hw hs (Meth.caller (M26 hw) d26_28) ho ?_
      refine wp_iff C (M26 hw) d26_31 (XT.i0_eq_f (by decide)) ?_
      refine wp_seg C (M26 hw) [(.aload_n 0, 1)] (by decide +kernel) (pc' := 35) (L' := [.val (.ref a), .val (.int (Int32.ofNat i)), .val (.int (Int32.ofNat (i + m))), .val (.int (Int32.ofNat us.length)), .val (.int (Int32.ofNat m))]) (S' := [.ref a]) rfl ?_
      refine wp_getfield C (M26 hw) d26_35 (w28 hw) (Or.inl rfl) (a := a) (mu := false) (Cl := "java/lang/String") (fs := [("java/lang/String", "value", "[B", .ref b), ("java/lang/String", "coder", "B", .int 0)]) ho (List.mem_of_getElem? (i := 0) rfl) ?_
      refine wp_seg C (M26 hw) [(.iload_n 1, 1), (.iload 4, 2)] (by decide +kernel) (pc' := 41) (L' := [.val (.ref a), .val (.int (Int32.ofNat i)), .val (.int (Int32.ofNat (i + m))), .val (.int (Int32.ofNat us.length)), .val (.int (Int32.ofNat m))]) (S' := [.int (Int32.ofNat m), .int (Int32.ofNat i), .ref b]) rfl ?_
      refine wp_invokestatic C (M26 hw) d26_41 (M25 hw) (w127 hw) (w128 hw) (w31 hw) (by decide) (S' := []) [.ref b, .int (Int32.ofNat i), .int (Int32.ofNat m)] (lenOf pd25 rfl) rfl (L' := [.val (.ref b), .val (.int (Int32.ofNat i)), .val (.int (Int32.ofNat m))]) rfl rfl (hR.push (d' := 1) (w' := 14) (Nat.le_of_ble_eq_true rfl) (Nat.le_of_ble_eq_true rfl)) ?_
      refine c_news C hw hst wS hE hl h1 hbb hne (Meth.caller (M26 hw) d26_41) (hR.push (d' := 4) (w' := 86) (Nat.le_of_ble_eq_true rfl) (Nat.le_of_ble_eq_true rfl)) hb hk hn fun a' b' => ?_
      refine wp_seg C (M26 hw) [(.goto 13, 3)] (by decide +kernel) (pc' := 57) (L' := [.val (.ref a), .val (.int (Int32.ofNat i)), .val (.int (Int32.ofNat (i + m))), .val (.int (Int32.ofNat us.length)), .val (.int (Int32.ofNat m))]) (S' := [.ref a']) rfl ?_
      exact wp_aret C (M26 hw) d26_57 rfl (t := .object "java/lang/String") rfl rfl Cr (K a' b')
theorem c_at {κ : Cx} (C : Ok κ) (hw : Ws κ) (hs : StrS κ) (hst : kS κ = false) (wS : StrW κ) (hE : kE κ = consts_1) (hPP : kP κ = consts_1) {i s p q : Nat} {bits : Int64} (hi : i < 16) (hs5 : s ≤ 5) (hp : p ≤ 16) (hq : q ≤ 16) {yc : MethodName} {pcc : Nat} {Lc : List Slot} {Sc : List Value} {F : List Frame} {l : List Chunk} {k n : Nat} (Cr : Caller κ yc pcc 3) (hR : Rm κ (fr κ yc pcc Lc Sc :: F) 5 72)  (K : ∀ u, AtOK i s p q u → WP κ yc (pcc + 3) Lc (.int (ch8 u) :: Sc) F (l) k n) :
    WP κ y27 0 [.val (.int (Int32.ofNat i)), .val (.int (Int32.ofNat s)), .val (.int (Int32.ofNat (s + 3))), .val (.int (Int32.ofNat p)), .val (.int (Int32.ofNat q)), .val (.long bits), .second, .unset] [] (fr κ yc pcc Lc Sc :: F) (l) k n := by
  refine wp_seg C (M27 hw) [(.lload 5, 2), (.iconst 3, 1), (.iload_n 0, 1), (.imul, 1), (.lushr, 1)] (by decide +kernel) (pc' := 6) (L' := [.val (.int (Int32.ofNat i)), .val (.int (Int32.ofNat s)), .val (.int (Int32.ofNat (s + 3))), .val (.int (Int32.ofNat p)), .val (.int (Int32.ofNat q)), .val (.long bits), .second, .unset]) (S' := [.long (XT.ushrL bits ((3 : Int32) * (Int32.ofNat i)))]) rfl ?_
  refine wp_ldc2 C (M27 hw) d27_6 (w7 hw) ?_
  refine wp_seg C (M27 hw) [(.land, 1), (.l2i, 1)] (by decide +kernel) (pc' := 11) (L' := [.val (.int (Int32.ofNat i)), .val (.int (Int32.ofNat s)), .val (.int (Int32.ofNat (s + 3))), .val (.int (Int32.ofNat p)), .val (.int (Int32.ofNat q)), .val (.long bits), .second, .unset]) (S' := [.int (Int64.toInt32 ((XT.ushrL bits ((3 : Int32) * (Int32.ofNat i))) &&& (7 : Int64)))]) rfl ?_
  obtain ⟨j, hj, ej⟩ := mask64_7 (XT.ushrL bits ((3 : Int32) * (Int32.ofNat i)))
  rw [ej]
  refine wp_seg C (M27 hw) [(.istore 7, 2), (.iload_n 0, 1), (.iload_n 1, 1)] (by decide +kernel) (pc' := 15) (L' := [.val (.int (Int32.ofNat i)), .val (.int (Int32.ofNat s)), .val (.int (Int32.ofNat (s + 3))), .val (.int (Int32.ofNat p)), .val (.int (Int32.ofNat q)), .val (.long bits), .second, .val (.int (Int32.ofNat j))]) (S' := [.int (Int32.ofNat s), .int (Int32.ofNat i)]) rfl ?_
  by_cases h1 : i < s
  · refine wp_icf C (M27 hw) d27_15 (XT.ii_ge_f ((lt32 (by omega) (by omega)).mpr h1)) ?_
    refine wp_ldcP C hst wS (M27 hw) d27_18 (w8 hw) (by rw [hE]; exact List.mem_of_getElem? (i := 1) rfl) (by rw [hPP]; exact List.mem_of_getElem? (i := 1) rfl) [104, 116, 116, 112, 115] (by decide +kernel) (by decide) fun s1 s2 => ?_
    refine wp_seg C (M27 hw) [(.iload_n 0, 1)] (by decide +kernel) (pc' := 21) (L' := [.val (.int (Int32.ofNat i)), .val (.int (Int32.ofNat s)), .val (.int (Int32.ofNat (s + 3))), .val (.int (Int32.ofNat p)), .val (.int (Int32.ofNat q)), .val (.long bits), .second, .val (.int (Int32.ofNat j))]) (S' := [.int (Int32.ofNat i), .ref s1]) rfl ?_
    refine wp_invokevirtual C (M27 hw) d27_21 (M7 hw) (Cl := "java/lang/String") (w16 hw) (w17 hw) (w19 hw) (w18 hw) (Or.inl ⟨_, (w19 hw)⟩) (by decide) (b := s1) (List.mem_of_getElem? (i := 0) rfl) (S' := []) [.int (Int32.ofNat i)] (lenOf pd7 rfl) rfl (L' := [.val (.ref s1), .val (.int (Int32.ofNat i))]) rfl rfl (hR.push (d' := 1) (w' := 13) (Nat.le_of_ble_eq_true rfl) (Nat.le_of_ble_eq_true rfl)) ?_
    refine c_chat C hw hs (us := [104, 116, 116, 112, 115]) (i := i) (by simp) (by simp; omega) (Meth.caller (M27 hw) d27_21) (hR.push (d' := 4) (w' := 53) (Nat.le_of_ble_eq_true rfl) (Nat.le_of_ble_eq_true rfl)) ⟨s2, (List.mem_of_getElem? (i := 0) rfl), (List.mem_of_getElem? (i := 1) rfl)⟩ ?_
    refine wp_drop ?_
    refine wp_drop ?_
    exact wp_iret C (M27 hw) d27_24 rfl (t := .char) (by decide) (ch8_narrow _) Cr (K (([104, 116, 116, 112, 115] : List UInt8).getD i 0) (by refine ⟨?_, ?_, ?_, ?_, ?_, ?_, ?_⟩ <;> intros <;> first | omega | exact (fun q => absurd q ((by decide : ∀ t, t < 5 → (([104, 116, 116, 112, 115] : List UInt8).getD t 0) ≠ 58) _ (by omega)))))
  · refine wp_ict C (M27 hw) d27_15 (XT.ii_ge_t (fun q => h1 ((lt32 (by omega) (by omega)).mp q))) (pc' := 25) (by decide) ?_
    refine wp_seg C (M27 hw) [(.iload_n 0, 1), (.iload_n 2, 1)] (by decide +kernel) (pc' := 27) (L' := [.val (.int (Int32.ofNat i)), .val (.int (Int32.ofNat s)), .val (.int (Int32.ofNat (s + 3))), .val (.int (Int32.ofNat p)), .val (.int (Int32.ofNat q)), .val (.long bits), .second, .val (.int (Int32.ofNat j))]) (S' := [.int (Int32.ofNat (s + 3)), .int (Int32.ofNat i)]) rfl ?_
    by_cases h2 : i < s + 3
    · refine wp_icf C (M27 hw) d27_27 (XT.ii_ge_f ((lt32 (by omega) (by omega)).mpr h2)) ?_
      refine wp_seg C (M27 hw) [(.iload_n 0, 1), (.iload_n 1, 1)] (by decide +kernel) (pc' := 32) (L' := [.val (.int (Int32.ofNat i)), .val (.int (Int32.ofNat s)), .val (.int (Int32.ofNat (s + 3))), .val (.int (Int32.ofNat p)), .val (.int (Int32.ofNat q)), .val (.long bits), .second, .val (.int (Int32.ofNat j))]) (S' := [.int (Int32.ofNat s), .int (Int32.ofNat i)]) rfl ?_
      by_cases h3 : i = s
      · refine wp_icf C (M27 hw) d27_32 (XT.ii_ne_f ((eq32 (by omega) (by omega)).mpr h3)) ?_
        refine wp_seg C (M27 hw) [(.bipush 58, 2), (.goto 5, 3)] (by decide +kernel) (pc' := 42) (L' := [.val (.int (Int32.ofNat i)), .val (.int (Int32.ofNat s)), .val (.int (Int32.ofNat (s + 3))), .val (.int (Int32.ofNat p)), .val (.int (Int32.ofNat q)), .val (.long bits), .second, .val (.int (Int32.ofNat j))]) (S' := [.int 58]) rfl ?_
        exact wp_iret C (M27 hw) d27_42 rfl (t := .char) (by decide) (ch8_narrow _) Cr (K 58 (by refine ⟨?_, ?_, ?_, ?_, ?_, ?_, ?_⟩ <;> intros <;> first | omega | rfl))
      · refine wp_ict C (M27 hw) d27_32 (XT.ii_ne_t (fun q => h3 ((eq32 (by omega) (by omega)).mp q))) (pc' := 40) (by decide) ?_
        refine wp_seg C (M27 hw) [(.bipush 47, 2)] (by decide +kernel) (pc' := 42) (L' := [.val (.int (Int32.ofNat i)), .val (.int (Int32.ofNat s)), .val (.int (Int32.ofNat (s + 3))), .val (.int (Int32.ofNat p)), .val (.int (Int32.ofNat q)), .val (.long bits), .second, .val (.int (Int32.ofNat j))]) (S' := [.int 47]) rfl ?_
        exact wp_iret C (M27 hw) d27_42 rfl (t := .char) (by decide) (ch8_narrow _) Cr (K 47 (by refine ⟨?_, ?_, ?_, ?_, ?_, ?_, ?_⟩ <;> intros <;> first | omega | rfl))
    · refine wp_ict C (M27 hw) d27_27 (XT.ii_ge_t (fun q => h2 ((lt32 (by omega) (by omega)).mp q))) (pc' := 43) (by decide) ?_
      refine wp_seg C (M27 hw) [(.iload_n 0, 1), (.iload_n 3, 1)] (by decide +kernel) (pc' := 45) (L' := [.val (.int (Int32.ofNat i)), .val (.int (Int32.ofNat s)), .val (.int (Int32.ofNat (s + 3))), .val (.int (Int32.ofNat p)), .val (.int (Int32.ofNat q)), .val (.long bits), .second, .val (.int (Int32.ofNat j))]) (S' := [.int (Int32.ofNat p), .int (Int32.ofNat i)]) rfl ?_
      by_cases h3 : i < p
      · refine wp_icf C (M27 hw) d27_45 (XT.ii_ge_f ((lt32 (by omega) (by omega)).mpr h3)) ?_
        refine wp_ldcP C hst wS (M27 hw) d27_48 (w41 hw) (by rw [hE]; exact List.mem_of_getElem? (i := 2) rfl) (by rw [hPP]; exact List.mem_of_getElem? (i := 2) rfl) [97, 90, 48, 46, 58, 45, 37, 57] (by decide +kernel) (by decide) fun s3 s4 => ?_
        refine wp_seg C (M27 hw) [(.iload 7, 2)] (by decide +kernel) (pc' := 52) (L' := [.val (.int (Int32.ofNat i)), .val (.int (Int32.ofNat s)), .val (.int (Int32.ofNat (s + 3))), .val (.int (Int32.ofNat p)), .val (.int (Int32.ofNat q)), .val (.long bits), .second, .val (.int (Int32.ofNat j))]) (S' := [.int (Int32.ofNat j), .ref s3]) rfl ?_
        refine wp_invokevirtual C (M27 hw) d27_52 (M7 hw) (Cl := "java/lang/String") (w16 hw) (w17 hw) (w19 hw) (w18 hw) (Or.inl ⟨_, (w19 hw)⟩) (by decide) (b := s3) (List.mem_of_getElem? (i := 0) rfl) (S' := []) [.int (Int32.ofNat j)] (lenOf pd7 rfl) rfl (L' := [.val (.ref s3), .val (.int (Int32.ofNat j))]) rfl rfl (hR.push (d' := 1) (w' := 13) (Nat.le_of_ble_eq_true rfl) (Nat.le_of_ble_eq_true rfl)) ?_
        refine c_chat C hw hs (us := [97, 90, 48, 46, 58, 45, 37, 57]) (i := j) (by simp) (by simp; omega) (Meth.caller (M27 hw) d27_52) (hR.push (d' := 4) (w' := 53) (Nat.le_of_ble_eq_true rfl) (Nat.le_of_ble_eq_true rfl)) ⟨s4, (List.mem_of_getElem? (i := 0) rfl), (List.mem_of_getElem? (i := 1) rfl)⟩ ?_
        refine wp_drop ?_
        refine wp_drop ?_
        exact wp_iret C (M27 hw) d27_55 rfl (t := .char) (by decide) (ch8_narrow _) Cr (K (([97, 90, 48, 46, 58, 45, 37, 57] : List UInt8).getD j 0) (by refine ⟨?_, ?_, ?_, ?_, ?_, ?_, ?_⟩ <;> intros <;> first | omega | exact (fun q => absurd q ((by decide : ∀ t, t < 8 → (([97, 90, 48, 46, 58, 45, 37, 57] : List UInt8).getD t 0) ≠ 47) _ (by omega)))))
      · refine wp_ict C (M27 hw) d27_45 (XT.ii_ge_t (fun q => h3 ((lt32 (by omega) (by omega)).mp q))) (pc' := 56) (by decide) ?_
        refine wp_seg C (M27 hw) [(.iload_n 0, 1), (.iload_n 3, 1)] (by decide +kernel) (pc' := 58) (L' := [.val (.int (Int32.ofNat i)), .val (.int (Int32.ofNat s)), .val (.int (Int32.ofNat (s + 3))), .val (.int (Int32.ofNat p)), .val (.int (Int32.ofNat q)), .val (.long bits), .second, .val (.int (Int32.ofNat j))]) (S' := [.int (Int32.ofNat p), .int (Int32.ofNat i)]) rfl ?_
        by_cases h4 : i = p
        · refine wp_icf C (M27 hw) d27_58 (XT.ii_ne_f ((eq32 (by omega) (by omega)).mpr h4)) ?_
          refine wp_seg C (M27 hw) [(.bipush 47, 2)] (by decide +kernel) (pc' := 63) (L' := [.val (.int (Int32.ofNat i)), .val (.int (Int32.ofNat s)), .val (.int (Int32.ofNat (s + 3))), .val (.int (Int32.ofNat p)), .val (.int (Int32.ofNat q)), .val (.long bits), .second, .val (.int (Int32.ofNat j))]) (S' := [.int 47]) rfl ?_
          exact wp_iret C (M27 hw) d27_63 rfl (t := .char) (by decide) (ch8_narrow _) Cr (K 47 (by refine ⟨?_, ?_, ?_, ?_, ?_, ?_, ?_⟩ <;> intros <;> first | omega | rfl))
        · refine wp_ict C (M27 hw) d27_58 (XT.ii_ne_t (fun q => h4 ((eq32 (by omega) (by omega)).mp q))) (pc' := 64) (by decide) ?_
          refine wp_seg C (M27 hw) [(.iload_n 0, 1), (.iload 4, 2)] (by decide +kernel) (pc' := 67) (L' := [.val (.int (Int32.ofNat i)), .val (.int (Int32.ofNat s)), .val (.int (Int32.ofNat (s + 3))), .val (.int (Int32.ofNat p)), .val (.int (Int32.ofNat q)), .val (.long bits), .second, .val (.int (Int32.ofNat j))]) (S' := [.int (Int32.ofNat q), .int (Int32.ofNat i)]) rfl ?_
          by_cases h5 : i < q
          · refine wp_icf C (M27 hw) d27_67 (XT.ii_ge_f ((lt32 (by omega) (by omega)).mpr h5)) ?_
            refine wp_ldcP C hst wS (M27 hw) d27_70 (w42 hw) (by rw [hE]; exact List.mem_of_getElem? (i := 3) rfl) (by rw [hPP]; exact List.mem_of_getElem? (i := 3) rfl) [97, 47, 46, 37, 58, 64, 66, 126] (by decide +kernel) (by decide) fun s5 s6 => ?_
            refine wp_seg C (M27 hw) [(.iload 7, 2)] (by decide +kernel) (pc' := 74) (L' := [.val (.int (Int32.ofNat i)), .val (.int (Int32.ofNat s)), .val (.int (Int32.ofNat (s + 3))), .val (.int (Int32.ofNat p)), .val (.int (Int32.ofNat q)), .val (.long bits), .second, .val (.int (Int32.ofNat j))]) (S' := [.int (Int32.ofNat j), .ref s5]) rfl ?_
            refine wp_invokevirtual C (M27 hw) d27_74 (M7 hw) (Cl := "java/lang/String") (w16 hw) (w17 hw) (w19 hw) (w18 hw) (Or.inl ⟨_, (w19 hw)⟩) (by decide) (b := s5) (List.mem_of_getElem? (i := 0) rfl) (S' := []) [.int (Int32.ofNat j)] (lenOf pd7 rfl) rfl (L' := [.val (.ref s5), .val (.int (Int32.ofNat j))]) rfl rfl (hR.push (d' := 1) (w' := 13) (Nat.le_of_ble_eq_true rfl) (Nat.le_of_ble_eq_true rfl)) ?_
            refine c_chat C hw hs (us := [97, 47, 46, 37, 58, 64, 66, 126]) (i := j) (by simp) (by simp; omega) (Meth.caller (M27 hw) d27_74) (hR.push (d' := 4) (w' := 53) (Nat.le_of_ble_eq_true rfl) (Nat.le_of_ble_eq_true rfl)) ⟨s6, (List.mem_of_getElem? (i := 0) rfl), (List.mem_of_getElem? (i := 1) rfl)⟩ ?_
            refine wp_drop ?_
            refine wp_drop ?_
            exact wp_iret C (M27 hw) d27_77 rfl (t := .char) (by decide) (ch8_narrow _) Cr (K (([97, 47, 46, 37, 58, 64, 66, 126] : List UInt8).getD j 0) (by refine ⟨?_, ?_, ?_, ?_, ?_, ?_, ?_⟩ <;> intros <;> first | omega | exact (fun q => absurd q ((by decide : ∀ t, t < 8 → (([97, 47, 46, 37, 58, 64, 66, 126] : List UInt8).getD t 0) ≠ 63) _ (by omega)))))
          · refine wp_ict C (M27 hw) d27_67 (XT.ii_ge_t (fun q => h5 ((lt32 (by omega) (by omega)).mp q))) (pc' := 78) (by decide) ?_
            refine wp_seg C (M27 hw) [(.iload_n 0, 1), (.iload 4, 2)] (by decide +kernel) (pc' := 81) (L' := [.val (.int (Int32.ofNat i)), .val (.int (Int32.ofNat s)), .val (.int (Int32.ofNat (s + 3))), .val (.int (Int32.ofNat p)), .val (.int (Int32.ofNat q)), .val (.long bits), .second, .val (.int (Int32.ofNat j))]) (S' := [.int (Int32.ofNat q), .int (Int32.ofNat i)]) rfl ?_
            by_cases h6 : i = q
            · refine wp_icf C (M27 hw) d27_81 (XT.ii_ne_f ((eq32 (by omega) (by omega)).mpr h6)) ?_
              refine wp_seg C (M27 hw) [(.bipush 63, 2)] (by decide +kernel) (pc' := 86) (L' := [.val (.int (Int32.ofNat i)), .val (.int (Int32.ofNat s)), .val (.int (Int32.ofNat (s + 3))), .val (.int (Int32.ofNat p)), .val (.int (Int32.ofNat q)), .val (.long bits), .second, .val (.int (Int32.ofNat j))]) (S' := [.int 63]) rfl ?_
              exact wp_iret C (M27 hw) d27_86 rfl (t := .char) (by decide) (ch8_narrow _) Cr (K 63 (by refine ⟨?_, ?_, ?_, ?_, ?_, ?_, ?_⟩ <;> intros <;> first | omega | rfl))
            · refine wp_ict C (M27 hw) d27_81 (XT.ii_ne_t (fun q => h6 ((eq32 (by omega) (by omega)).mp q))) (pc' := 87) (by decide) ?_
              refine wp_ldcP C hst wS (M27 hw) d27_87 (w43 hw) (by rw [hE]; exact List.mem_of_getElem? (i := 4) rfl) (by rw [hPP]; exact List.mem_of_getElem? (i := 4) rfl) [97, 47, 63, 61, 38, 58, 37, 66] (by decide +kernel) (by decide) fun s7 s8 => ?_
              refine wp_seg C (M27 hw) [(.iload 7, 2)] (by decide +kernel) (pc' := 91) (L' := [.val (.int (Int32.ofNat i)), .val (.int (Int32.ofNat s)), .val (.int (Int32.ofNat (s + 3))), .val (.int (Int32.ofNat p)), .val (.int (Int32.ofNat q)), .val (.long bits), .second, .val (.int (Int32.ofNat j))]) (S' := [.int (Int32.ofNat j), .ref s7]) rfl ?_
              refine wp_invokevirtual C (M27 hw) d27_91 (M7 hw) (Cl := "java/lang/String") (w16 hw) (w17 hw) (w19 hw) (w18 hw) (Or.inl ⟨_, (w19 hw)⟩) (by decide) (b := s7) (List.mem_of_getElem? (i := 0) rfl) (S' := []) [.int (Int32.ofNat j)] (lenOf pd7 rfl) rfl (L' := [.val (.ref s7), .val (.int (Int32.ofNat j))]) rfl rfl (hR.push (d' := 1) (w' := 13) (Nat.le_of_ble_eq_true rfl) (Nat.le_of_ble_eq_true rfl)) ?_
              refine c_chat C hw hs (us := [97, 47, 63, 61, 38, 58, 37, 66]) (i := j) (by simp) (by simp; omega) (Meth.caller (M27 hw) d27_91) (hR.push (d' := 4) (w' := 53) (Nat.le_of_ble_eq_true rfl) (Nat.le_of_ble_eq_true rfl)) ⟨s8, (List.mem_of_getElem? (i := 0) rfl), (List.mem_of_getElem? (i := 1) rfl)⟩ ?_
              refine wp_drop ?_
              refine wp_drop ?_
              exact wp_iret C (M27 hw) d27_94 rfl (t := .char) (by decide) (ch8_narrow _) Cr (K (([97, 47, 63, 61, 38, 58, 37, 66] : List UInt8).getD j 0) (by refine ⟨?_, ?_, ?_, ?_, ?_, ?_, ?_⟩ <;> intros <;> first | omega | rfl))
theorem h_lx {κ : Cx} (C : Ok κ) (hw : Ws κ) {b b' : Addr} {us : List UInt8} {s : Nat} (hl : us.length < 2 ^ 31) (h0 : 0 < s) (h3 : s + 3 ≤ us.length) (hn : ∀ t, t < s → us.getD t 0 ≠ 58) (e0 : us.getD s 0 = 58) (e1 : us.getD (s + 1) 0 = 47) (e2 : us.getD (s + 2) 0 = 47) {yc : MethodName} {pcc : Nat} {Lc : List Slot} {Sc : List Value} {F : List Frame} {l : List Chunk} {k n : Nat} (hb : strB b us ∈ l) (K : WP κ y28 52 [.val (.ref b), .val (.int (Int32.ofNat us.length)), .val (.ref b'), .val (.int 3), .val (.int 0), .val (.int ((58 : UInt8).toInt8.toInt32)), .val (.int (Int32.ofNat (us.length - 3))), .val (.int (Int32.ofNat s)), .unset, .unset, .unset] [] (fr κ yc pcc Lc Sc :: F) (l) k n) : ∀ (d i : Nat), i + 1 + d = s →
    WP κ y28 30 [.val (.ref b), .val (.int (Int32.ofNat us.length)), .val (.ref b'), .val (.int 3), .val (.int 0), .val (.int ((58 : UInt8).toInt8.toInt32)), .val (.int (Int32.ofNat (us.length - 3))), .val (.int (Int32.ofNat i)), .unset, .unset, .unset] [] (fr κ yc pcc Lc Sc :: F) (l) k n := by
  intro d
  induction d with
  | zero =>
    intro i hi
    have hi : i + 1 = s := by omega
    refine wp_seg C (M28 hw) [(.iinc 7 1, 3)] (by decide +kernel) (pc' := 33) (L' := [.val (.ref b), .val (.int (Int32.ofNat us.length)), .val (.ref b'), .val (.int 3), .val (.int 0), .val (.int ((58 : UInt8).toInt8.toInt32)), .val (.int (Int32.ofNat (us.length - 3))), .val (.int ((Int32.ofNat i) + 1)), .unset, .unset, .unset]) (S' := []) rfl ?_
    rw [succ32]
    refine wp_seg C (M28 hw) [(.iload 7, 2), (.iload 6, 2)] (by decide +kernel) (pc' := 37) (L' := [.val (.ref b), .val (.int (Int32.ofNat us.length)), .val (.ref b'), .val (.int 3), .val (.int 0), .val (.int ((58 : UInt8).toInt8.toInt32)), .val (.int (Int32.ofNat (us.length - 3))), .val (.int (Int32.ofNat (i + 1))), .unset, .unset, .unset]) (S' := [.int (Int32.ofNat (us.length - 3)), .int (Int32.ofNat (i + 1))]) rfl ?_
    refine wp_icf C (M28 hw) d28_37 (XT.ii_gt_f (fun q => (by omega : ¬ us.length - 3 < i + 1) ((lt32 (by omega) (by omega)).mp q))) ?_
    refine wp_seg C (M28 hw) [(.aload_n 0, 1), (.iload 7, 2)] (by decide +kernel) (pc' := 43) (L' := [.val (.ref b), .val (.int (Int32.ofNat us.length)), .val (.ref b'), .val (.int 3), .val (.int 0), .val (.int ((58 : UInt8).toInt8.toInt32)), .val (.int (Int32.ofNat (us.length - 3))), .val (.int (Int32.ofNat (i + 1))), .unset, .unset, .unset]) (S' := [.int (Int32.ofNat (i + 1)), .ref b]) rfl ?_
    refine wp_baload C (M28 hw) d28_43 (a := b) hb (i := (i + 1)) (Ix32 (by omega)) (v := .int ((us.getD (i + 1) 0).toInt8.toInt32)) (getD_map (by omega)) ?_
    refine wp_seg C (M28 hw) [(.iload 5, 2)] (by decide +kernel) (pc' := 46) (L' := [.val (.ref b), .val (.int (Int32.ofNat us.length)), .val (.ref b'), .val (.int 3), .val (.int 0), .val (.int ((58 : UInt8).toInt8.toInt32)), .val (.int (Int32.ofNat (us.length - 3))), .val (.int (Int32.ofNat (i + 1))), .unset, .unset, .unset]) (S' := [.int ((58 : UInt8).toInt8.toInt32), .int ((us.getD (i + 1) 0).toInt8.toInt32)]) rfl ?_
    refine wp_ict C (M28 hw) d28_46 (XT.ii_eq_t (byv_inj.mpr (by rw [hi]; exact e0))) (pc' := 52) (by decide) ?_
    rw [hi]
    exact K
  | succ d ih =>
    intro i hd
    refine wp_seg C (M28 hw) [(.iinc 7 1, 3)] (by decide +kernel) (pc' := 33) (L' := [.val (.ref b), .val (.int (Int32.ofNat us.length)), .val (.ref b'), .val (.int 3), .val (.int 0), .val (.int ((58 : UInt8).toInt8.toInt32)), .val (.int (Int32.ofNat (us.length - 3))), .val (.int ((Int32.ofNat i) + 1)), .unset, .unset, .unset]) (S' := []) rfl ?_
    rw [succ32]
    refine wp_seg C (M28 hw) [(.iload 7, 2), (.iload 6, 2)] (by decide +kernel) (pc' := 37) (L' := [.val (.ref b), .val (.int (Int32.ofNat us.length)), .val (.ref b'), .val (.int 3), .val (.int 0), .val (.int ((58 : UInt8).toInt8.toInt32)), .val (.int (Int32.ofNat (us.length - 3))), .val (.int (Int32.ofNat (i + 1))), .unset, .unset, .unset]) (S' := [.int (Int32.ofNat (us.length - 3)), .int (Int32.ofNat (i + 1))]) rfl ?_
    refine wp_icf C (M28 hw) d28_37 (XT.ii_gt_f (fun q => (by omega : ¬ us.length - 3 < i + 1) ((lt32 (by omega) (by omega)).mp q))) ?_
    refine wp_seg C (M28 hw) [(.aload_n 0, 1), (.iload 7, 2)] (by decide +kernel) (pc' := 43) (L' := [.val (.ref b), .val (.int (Int32.ofNat us.length)), .val (.ref b'), .val (.int 3), .val (.int 0), .val (.int ((58 : UInt8).toInt8.toInt32)), .val (.int (Int32.ofNat (us.length - 3))), .val (.int (Int32.ofNat (i + 1))), .unset, .unset, .unset]) (S' := [.int (Int32.ofNat (i + 1)), .ref b]) rfl ?_
    refine wp_baload C (M28 hw) d28_43 (a := b) hb (i := (i + 1)) (Ix32 (by omega)) (v := .int ((us.getD (i + 1) 0).toInt8.toInt32)) (getD_map (by omega)) ?_
    refine wp_seg C (M28 hw) [(.iload 5, 2)] (by decide +kernel) (pc' := 46) (L' := [.val (.ref b), .val (.int (Int32.ofNat us.length)), .val (.ref b'), .val (.int 3), .val (.int 0), .val (.int ((58 : UInt8).toInt8.toInt32)), .val (.int (Int32.ofNat (us.length - 3))), .val (.int (Int32.ofNat (i + 1))), .unset, .unset, .unset]) (S' := [.int ((58 : UInt8).toInt8.toInt32), .int ((us.getD (i + 1) 0).toInt8.toInt32)]) rfl ?_
    refine wp_icf C (M28 hw) d28_46 (XT.ii_eq_f (fun q => hn (i + 1) (by omega) (byv_inj.mp q))) ?_
    refine wp_seg C (M28 hw) [(.goto (-19), 3)] (by decide +kernel) (pc' := 30) (L' := [.val (.ref b), .val (.int (Int32.ofNat us.length)), .val (.ref b'), .val (.int 3), .val (.int 0), .val (.int ((58 : UInt8).toInt8.toInt32)), .val (.int (Int32.ofNat (us.length - 3))), .val (.int (Int32.ofNat (i + 1))), .unset, .unset, .unset]) (S' := []) rfl ?_
    exact ih (i + 1) (by omega)
theorem c_lx5 {κ : Cx} (C : Ok κ) (hw : Ws κ) {b b' : Addr} {us : List UInt8} {s : Nat} (hl : us.length < 2 ^ 31) (h0 : 0 < s) (h3 : s + 3 ≤ us.length) (hn : ∀ t, t < s → us.getD t 0 ≠ 58) (e0 : us.getD s 0 = 58) (e1 : us.getD (s + 1) 0 = 47) (e2 : us.getD (s + 2) 0 = 47) {yc : MethodName} {pcc : Nat} {Lc : List Slot} {Sc : List Value} {F : List Frame} {l : List Chunk} {k n : Nat} (Cr : Caller κ yc pcc 3) (hb : strB b us ∈ l) (hb' : strB b' [58, 47, 47] ∈ l) (K : WP κ yc (pcc + 3) Lc (.int (Int32.ofNat s) :: Sc) F (l) k n) :
    WP κ y28 0 [.val (.ref b), .val (.int (Int32.ofNat us.length)), .val (.ref b'), .val (.int 3), .val (.int 0), .unset, .unset, .unset, .unset, .unset, .unset] [] (fr κ yc pcc Lc Sc :: F) (l) k n := by
  refine wp_seg C (M28 hw) [(.aload_n 2, 1), (.iconst 0, 1)] (by decide +kernel) (pc' := 2) (L' := [.val (.ref b), .val (.int (Int32.ofNat us.length)), .val (.ref b'), .val (.int 3), .val (.int 0), .unset, .unset, .unset, .unset, .unset, .unset]) (S' := [.int 0, .ref b']) rfl ?_
  refine wp_baload C (M28 hw) d28_2 (a := b') hb' (i := 0) ⟨by decide, by decide⟩ (v := .int ((58 : UInt8).toInt8.toInt32)) rfl ?_
  refine wp_seg C (M28 hw) [(.istore 5, 2), (.iload_n 1, 1), (.iload_n 3, 1), (.isub, 1)] (by decide +kernel) (pc' := 8) (L' := [.val (.ref b), .val (.int (Int32.ofNat us.length)), .val (.ref b'), .val (.int 3), .val (.int 0), .val (.int ((58 : UInt8).toInt8.toInt32)), .unset, .unset, .unset, .unset, .unset]) (S' := [.int ((Int32.ofNat us.length) - (3 : Int32))]) rfl ?_
  rw [show Int32.ofNat us.length - 3 = Int32.ofNat (us.length - 3) from sub32n (show 3 ≤ us.length by omega)]
  refine wp_seg C (M28 hw) [(.istore 6, 2), (.iload 4, 2), (.istore 7, 2), (.iload 7, 2), (.iload 6, 2)] (by decide +kernel) (pc' := 18) (L' := [.val (.ref b), .val (.int (Int32.ofNat us.length)), .val (.ref b'), .val (.int 3), .val (.int 0), .val (.int ((58 : UInt8).toInt8.toInt32)), .val (.int (Int32.ofNat (us.length - 3))), .val (.int 0), .unset, .unset, .unset]) (S' := [.int (Int32.ofNat (us.length - 3)), .int 0]) rfl ?_
  refine wp_icf C (M28 hw) d28_18 (XT.ii_gt_f (nn32 (by omega))) ?_
  refine wp_seg C (M28 hw) [(.aload_n 0, 1), (.iload 7, 2)] (by decide +kernel) (pc' := 24) (L' := [.val (.ref b), .val (.int (Int32.ofNat us.length)), .val (.ref b'), .val (.int 3), .val (.int 0), .val (.int ((58 : UInt8).toInt8.toInt32)), .val (.int (Int32.ofNat (us.length - 3))), .val (.int 0), .unset, .unset, .unset]) (S' := [.int 0, .ref b]) rfl ?_
  refine wp_baload C (M28 hw) d28_24 (a := b) hb (i := 0) ⟨by decide, by decide⟩ (v := .int ((us.getD 0 0).toInt8.toInt32)) (getD_map (by omega)) ?_
  refine wp_seg C (M28 hw) [(.iload 5, 2)] (by decide +kernel) (pc' := 27) (L' := [.val (.ref b), .val (.int (Int32.ofNat us.length)), .val (.ref b'), .val (.int 3), .val (.int 0), .val (.int ((58 : UInt8).toInt8.toInt32)), .val (.int (Int32.ofNat (us.length - 3))), .val (.int 0), .unset, .unset, .unset]) (S' := [.int ((58 : UInt8).toInt8.toInt32), .int ((us.getD 0 0).toInt8.toInt32)]) rfl ?_
  refine wp_icf C (M28 hw) d28_27 (XT.ii_eq_f (fun q => hn 0 h0 (byv_inj.mp q))) ?_
  refine h_lx C hw hl h0 h3 hn e0 e1 e2 hb ?_ (s - 1) 0 (by omega)
  refine wp_seg C (M28 hw) [(.iload 7, 2), (.iload 6, 2)] (by decide +kernel) (pc' := 56) (L' := [.val (.ref b), .val (.int (Int32.ofNat us.length)), .val (.ref b'), .val (.int 3), .val (.int 0), .val (.int ((58 : UInt8).toInt8.toInt32)), .val (.int (Int32.ofNat (us.length - 3))), .val (.int (Int32.ofNat s)), .unset, .unset, .unset]) (S' := [.int (Int32.ofNat (us.length - 3)), .int (Int32.ofNat s)]) rfl ?_
  refine wp_icf C (M28 hw) d28_56 (XT.ii_gt_f (fun q => (by omega : ¬ us.length - 3 < s) ((lt32 (by omega) (by omega)).mp q))) ?_
  refine wp_seg C (M28 hw) [(.iload 7, 2), (.iconst 1, 1), (.iadd, 1)] (by decide +kernel) (pc' := 63) (L' := [.val (.ref b), .val (.int (Int32.ofNat us.length)), .val (.ref b'), .val (.int 3), .val (.int 0), .val (.int ((58 : UInt8).toInt8.toInt32)), .val (.int (Int32.ofNat (us.length - 3))), .val (.int (Int32.ofNat s)), .unset, .unset, .unset]) (S' := [.int ((Int32.ofNat s) + (1 : Int32))]) rfl ?_
  rw [succ32]
  refine wp_seg C (M28 hw) [(.istore 8, 2), (.iload 8, 2), (.iload_n 3, 1), (.iadd, 1), (.iconst 1, 1), (.isub, 1)] (by decide +kernel) (pc' := 71) (L' := [.val (.ref b), .val (.int (Int32.ofNat us.length)), .val (.ref b'), .val (.int 3), .val (.int 0), .val (.int ((58 : UInt8).toInt8.toInt32)), .val (.int (Int32.ofNat (us.length - 3))), .val (.int (Int32.ofNat s)), .val (.int (Int32.ofNat (s + 1))), .unset, .unset]) (S' := [.int (((Int32.ofNat (s + 1)) + (3 : Int32)) - (1 : Int32))]) rfl ?_
  rw [show Int32.ofNat (s + 1) + 3 - 1 = Int32.ofNat (s + 3) from by rw [show Int32.ofNat (s + 1) + 3 = Int32.ofNat (s + 1 + 3) from add32n (s + 1) 3]; exact sub32n (a := s + 1 + 3) (b := 1) (by omega)]
  refine wp_seg C (M28 hw) [(.istore 9, 2), (.iconst 1, 1), (.istore 10, 2)] (by decide +kernel) (pc' := 76) (L' := [.val (.ref b), .val (.int (Int32.ofNat us.length)), .val (.ref b'), .val (.int 3), .val (.int 0), .val (.int ((58 : UInt8).toInt8.toInt32)), .val (.int (Int32.ofNat (us.length - 3))), .val (.int (Int32.ofNat s)), .val (.int (Int32.ofNat (s + 1))), .val (.int (Int32.ofNat (s + 3))), .val (.int 1)]) (S' := []) rfl ?_
  refine wp_seg C (M28 hw) [(.iload 8, 2), (.iload 9, 2)] (by decide +kernel) (pc' := 80) (L' := [.val (.ref b), .val (.int (Int32.ofNat us.length)), .val (.ref b'), .val (.int 3), .val (.int 0), .val (.int ((58 : UInt8).toInt8.toInt32)), .val (.int (Int32.ofNat (us.length - 3))), .val (.int (Int32.ofNat s)), .val (.int (Int32.ofNat (s + 1))), .val (.int (Int32.ofNat (s + 3))), .val (.int 1)]) (S' := [.int (Int32.ofNat (s + 3)), .int (Int32.ofNat (s + 1))]) rfl ?_
  refine wp_icf C (M28 hw) d28_80 (XT.ii_ge_f ((lt32 (by omega) (by omega)).mpr (by omega))) ?_
  refine wp_seg C (M28 hw) [(.aload_n 0, 1), (.iload 8, 2)] (by decide +kernel) (pc' := 86) (L' := [.val (.ref b), .val (.int (Int32.ofNat us.length)), .val (.ref b'), .val (.int 3), .val (.int 0), .val (.int ((58 : UInt8).toInt8.toInt32)), .val (.int (Int32.ofNat (us.length - 3))), .val (.int (Int32.ofNat s)), .val (.int (Int32.ofNat (s + 1))), .val (.int (Int32.ofNat (s + 3))), .val (.int 1)]) (S' := [.int (Int32.ofNat (s + 1)), .ref b]) rfl ?_
  refine wp_baload C (M28 hw) d28_86 (a := b) hb (i := (s + 1)) (Ix32 (by omega)) (v := .int ((us.getD (s + 1) 0).toInt8.toInt32)) (getD_map (by omega)) ?_
  refine wp_seg C (M28 hw) [(.aload_n 2, 1), (.iload 10, 2)] (by decide +kernel) (pc' := 90) (L' := [.val (.ref b), .val (.int (Int32.ofNat us.length)), .val (.ref b'), .val (.int 3), .val (.int 0), .val (.int ((58 : UInt8).toInt8.toInt32)), .val (.int (Int32.ofNat (us.length - 3))), .val (.int (Int32.ofNat s)), .val (.int (Int32.ofNat (s + 1))), .val (.int (Int32.ofNat (s + 3))), .val (.int 1)]) (S' := [.int 1, .ref b', .int ((us.getD (s + 1) 0).toInt8.toInt32)]) rfl ?_
  refine wp_baload C (M28 hw) d28_90 (a := b') hb' (i := 1) ⟨by decide, by decide⟩ (v := .int ((47 : UInt8).toInt8.toInt32)) rfl ?_
  refine wp_icf C (M28 hw) d28_91 (XT.ii_ne_f (byv_inj.mpr e1)) ?_
  refine wp_seg C (M28 hw) [(.iinc 8 1, 3)] (by decide +kernel) (pc' := 97) (L' := [.val (.ref b), .val (.int (Int32.ofNat us.length)), .val (.ref b'), .val (.int 3), .val (.int 0), .val (.int ((58 : UInt8).toInt8.toInt32)), .val (.int (Int32.ofNat (us.length - 3))), .val (.int (Int32.ofNat s)), .val (.int ((Int32.ofNat (s + 1)) + 1)), .val (.int (Int32.ofNat (s + 3))), .val (.int 1)]) (S' := []) rfl ?_
  rw [succ32]
  show WP κ _ _ [.val (.ref b), .val (.int (Int32.ofNat us.length)), .val (.ref b'), .val (.int 3), .val (.int 0), .val (.int ((58 : UInt8).toInt8.toInt32)), .val (.int (Int32.ofNat (us.length - 3))), .val (.int (Int32.ofNat s)), .val (.int (Int32.ofNat (s + 2))), .val (.int (Int32.ofNat (s + 3))), .val (.int 1)] _ _ _ _ _
  refine wp_seg C (M28 hw) [(.iinc 10 1, 3), (.goto (-24), 3)] (by decide +kernel) (pc' := 76) (L' := [.val (.ref b), .val (.int (Int32.ofNat us.length)), .val (.ref b'), .val (.int 3), .val (.int 0), .val (.int ((58 : UInt8).toInt8.toInt32)), .val (.int (Int32.ofNat (us.length - 3))), .val (.int (Int32.ofNat s)), .val (.int (Int32.ofNat (s + 2))), .val (.int (Int32.ofNat (s + 3))), .val (.int 2)]) (S' := []) rfl ?_
  refine wp_seg C (M28 hw) [(.iload 8, 2), (.iload 9, 2)] (by decide +kernel) (pc' := 80) (L' := [.val (.ref b), .val (.int (Int32.ofNat us.length)), .val (.ref b'), .val (.int 3), .val (.int 0), .val (.int ((58 : UInt8).toInt8.toInt32)), .val (.int (Int32.ofNat (us.length - 3))), .val (.int (Int32.ofNat s)), .val (.int (Int32.ofNat (s + 2))), .val (.int (Int32.ofNat (s + 3))), .val (.int 2)]) (S' := [.int (Int32.ofNat (s + 3)), .int (Int32.ofNat (s + 2))]) rfl ?_
  refine wp_icf C (M28 hw) d28_80 (XT.ii_ge_f ((lt32 (by omega) (by omega)).mpr (by omega))) ?_
  refine wp_seg C (M28 hw) [(.aload_n 0, 1), (.iload 8, 2)] (by decide +kernel) (pc' := 86) (L' := [.val (.ref b), .val (.int (Int32.ofNat us.length)), .val (.ref b'), .val (.int 3), .val (.int 0), .val (.int ((58 : UInt8).toInt8.toInt32)), .val (.int (Int32.ofNat (us.length - 3))), .val (.int (Int32.ofNat s)), .val (.int (Int32.ofNat (s + 2))), .val (.int (Int32.ofNat (s + 3))), .val (.int 2)]) (S' := [.int (Int32.ofNat (s + 2)), .ref b]) rfl ?_
  refine wp_baload C (M28 hw) d28_86 (a := b) hb (i := (s + 2)) (Ix32 (by omega)) (v := .int ((us.getD (s + 2) 0).toInt8.toInt32)) (getD_map (by omega)) ?_
  refine wp_seg C (M28 hw) [(.aload_n 2, 1), (.iload 10, 2)] (by decide +kernel) (pc' := 90) (L' := [.val (.ref b), .val (.int (Int32.ofNat us.length)), .val (.ref b'), .val (.int 3), .val (.int 0), .val (.int ((58 : UInt8).toInt8.toInt32)), .val (.int (Int32.ofNat (us.length - 3))), .val (.int (Int32.ofNat s)), .val (.int (Int32.ofNat (s + 2))), .val (.int (Int32.ofNat (s + 3))), .val (.int 2)]) (S' := [.int 2, .ref b', .int ((us.getD (s + 2) 0).toInt8.toInt32)]) rfl ?_
  refine wp_baload C (M28 hw) d28_90 (a := b') hb' (i := 2) ⟨by decide, by decide⟩ (v := .int ((47 : UInt8).toInt8.toInt32)) rfl ?_
  refine wp_icf C (M28 hw) d28_91 (XT.ii_ne_f (byv_inj.mpr e2)) ?_
  refine wp_seg C (M28 hw) [(.iinc 8 1, 3)] (by decide +kernel) (pc' := 97) (L' := [.val (.ref b), .val (.int (Int32.ofNat us.length)), .val (.ref b'), .val (.int 3), .val (.int 0), .val (.int ((58 : UInt8).toInt8.toInt32)), .val (.int (Int32.ofNat (us.length - 3))), .val (.int (Int32.ofNat s)), .val (.int ((Int32.ofNat (s + 2)) + 1)), .val (.int (Int32.ofNat (s + 3))), .val (.int 2)]) (S' := []) rfl ?_
  rw [succ32]
  show WP κ _ _ [.val (.ref b), .val (.int (Int32.ofNat us.length)), .val (.ref b'), .val (.int 3), .val (.int 0), .val (.int ((58 : UInt8).toInt8.toInt32)), .val (.int (Int32.ofNat (us.length - 3))), .val (.int (Int32.ofNat s)), .val (.int (Int32.ofNat (s + 3))), .val (.int (Int32.ofNat (s + 3))), .val (.int 2)] _ _ _ _ _
  refine wp_seg C (M28 hw) [(.iinc 10 1, 3), (.goto (-24), 3)] (by decide +kernel) (pc' := 76) (L' := [.val (.ref b), .val (.int (Int32.ofNat us.length)), .val (.ref b'), .val (.int 3), .val (.int 0), .val (.int ((58 : UInt8).toInt8.toInt32)), .val (.int (Int32.ofNat (us.length - 3))), .val (.int (Int32.ofNat s)), .val (.int (Int32.ofNat (s + 3))), .val (.int (Int32.ofNat (s + 3))), .val (.int 3)]) (S' := []) rfl ?_
  refine wp_seg C (M28 hw) [(.iload 8, 2), (.iload 9, 2)] (by decide +kernel) (pc' := 80) (L' := [.val (.ref b), .val (.int (Int32.ofNat us.length)), .val (.ref b'), .val (.int 3), .val (.int 0), .val (.int ((58 : UInt8).toInt8.toInt32)), .val (.int (Int32.ofNat (us.length - 3))), .val (.int (Int32.ofNat s)), .val (.int (Int32.ofNat (s + 3))), .val (.int (Int32.ofNat (s + 3))), .val (.int 3)]) (S' := [.int (Int32.ofNat (s + 3)), .int (Int32.ofNat (s + 3))]) rfl ?_
  refine wp_ict C (M28 hw) d28_80 (XT.ii_ge_t (fun q => (by omega : ¬ s + 3 < s + 3) ((lt32 (by omega) (by omega)).mp q))) (pc' := 103) (by decide) ?_
  refine wp_seg C (M28 hw) [(.iload 8, 2), (.iload 9, 2)] (by decide +kernel) (pc' := 107) (L' := [.val (.ref b), .val (.int (Int32.ofNat us.length)), .val (.ref b'), .val (.int 3), .val (.int 0), .val (.int ((58 : UInt8).toInt8.toInt32)), .val (.int (Int32.ofNat (us.length - 3))), .val (.int (Int32.ofNat s)), .val (.int (Int32.ofNat (s + 3))), .val (.int (Int32.ofNat (s + 3))), .val (.int 3)]) (S' := [.int (Int32.ofNat (s + 3)), .int (Int32.ofNat (s + 3))]) rfl ?_
  refine wp_icf C (M28 hw) d28_107 (XT.ii_ne_f rfl) ?_
  refine wp_seg C (M28 hw) [(.iload 7, 2)] (by decide +kernel) (pc' := 112) (L' := [.val (.ref b), .val (.int (Int32.ofNat us.length)), .val (.ref b'), .val (.int 3), .val (.int 0), .val (.int ((58 : UInt8).toInt8.toInt32)), .val (.int (Int32.ofNat (us.length - 3))), .val (.int (Int32.ofNat s)), .val (.int (Int32.ofNat (s + 3))), .val (.int (Int32.ofNat (s + 3))), .val (.int 3)]) (S' := [.int (Int32.ofNat s)]) rfl ?_
  exact wp_iret C (M28 hw) d28_112 rfl (t := .int) (by decide) rfl Cr K
theorem c_lx2 {κ : Cx} (C : Ok κ) (hw : Ws κ) {b b' : Addr} {us : List UInt8} {s : Nat} (hl : us.length < 2 ^ 31) (h0 : 0 < s) (h3 : s + 3 ≤ us.length) (hn : ∀ t, t < s → us.getD t 0 ≠ 58) (e0 : us.getD s 0 = 58) (e1 : us.getD (s + 1) 0 = 47) (e2 : us.getD (s + 2) 0 = 47) {yc : MethodName} {pcc : Nat} {Lc : List Slot} {Sc : List Value} {F : List Frame} {l : List Chunk} {k n : Nat} (Cr : Caller κ yc pcc 3) (hR : Rm κ (fr κ yc pcc Lc Sc :: F) 2 35) (hb : strB b us ∈ l) (hb' : strB b' [58, 47, 47] ∈ l) (K : WP κ yc (pcc + 3) Lc (.int (Int32.ofNat s) :: Sc) F (l) k n) :
    WP κ y29 0 [.val (.ref b), .val (.ref b')] [] (fr κ yc pcc Lc Sc :: F) (l) k n := by
  refine wp_seg C (M29 hw) [(.aload_n 1, 1)] (by decide +kernel) (pc' := 1) (L' := [.val (.ref b), .val (.ref b')]) (S' := [.ref b']) rfl ?_
  refine wp_arraylength C (M29 hw) d29_1 (a := b') hb' (z := 3) rfl ?_
  refine wp_ift C (M29 hw) d29_2 (XT.i0_ne_t (by decide)) (pc' := 7) (by decide) ?_
  refine wp_seg C (M29 hw) [(.aload_n 0, 1)] (by decide +kernel) (pc' := 8) (L' := [.val (.ref b), .val (.ref b')]) (S' := [.ref b]) rfl ?_
  refine wp_arraylength C (M29 hw) d29_8 (a := b) hb (z := (Int32.ofNat us.length)) (by simp) ?_
  refine wp_ift C (M29 hw) d29_9 (XT.i0_ne_t (fun q => by have := (eq32 (b := 0) hl (by decide)).mp q; omega)) (pc' := 14) (by decide) ?_
  refine wp_seg C (M29 hw) [(.aload_n 0, 1), (.aload_n 0, 1)] (by decide +kernel) (pc' := 16) (L' := [.val (.ref b), .val (.ref b')]) (S' := [.ref b, .ref b]) rfl ?_
  refine wp_arraylength C (M29 hw) d29_16 (a := b) hb (z := (Int32.ofNat us.length)) (by simp) ?_
  refine wp_seg C (M29 hw) [(.aload_n 1, 1), (.aload_n 1, 1)] (by decide +kernel) (pc' := 19) (L' := [.val (.ref b), .val (.ref b')]) (S' := [.ref b', .ref b', .int (Int32.ofNat us.length), .ref b]) rfl ?_
  refine wp_arraylength C (M29 hw) d29_19 (a := b') hb' (z := 3) rfl ?_
  refine wp_seg C (M29 hw) [(.iconst 0, 1)] (by decide +kernel) (pc' := 21) (L' := [.val (.ref b), .val (.ref b')]) (S' := [.int 0, .int 3, .ref b', .int (Int32.ofNat us.length), .ref b]) rfl ?_
  refine wp_invokestatic C (M29 hw) d29_21 (M28 hw) (w86 hw) (w87 hw) (w31 hw) (by decide) (S' := []) [.ref b, .int (Int32.ofNat us.length), .ref b', .int 3, .int 0] (lenOf pd28 rfl) rfl (L' := [.val (.ref b), .val (.int (Int32.ofNat us.length)), .val (.ref b'), .val (.int 3), .val (.int 0), .unset, .unset, .unset, .unset, .unset, .unset]) rfl rfl (hR.push (d' := 1) (w' := 22) (Nat.le_of_ble_eq_true rfl) (Nat.le_of_ble_eq_true rfl)) ?_
  refine c_lx5 C hw hl h0 h3 hn e0 e1 e2 (Meth.caller (M29 hw) d29_21) hb hb' ?_
  exact wp_iret C (M29 hw) d29_24 rfl (t := .int) (by decide) rfl Cr K
theorem c_ixs {κ : Cx} (C : Ok κ) (hw : Ws κ) (hs : StrS κ) {a a' : Addr} {us : List UInt8} {s : Nat} (hl : us.length < 2 ^ 31) (h0 : 0 < s) (h3 : s + 3 ≤ us.length) (hn : ∀ t, t < s → us.getD t 0 ≠ 58) (e0 : us.getD s 0 = 58) (e1 : us.getD (s + 1) 0 = 47) (e2 : us.getD (s + 2) 0 = 47) {yc : MethodName} {pcc : Nat} {Lc : List Slot} {Sc : List Value} {F : List Frame} {l : List Chunk} {k n : Nat} (Cr : Caller κ yc pcc 3) (hR : Rm κ (fr κ yc pcc Lc Sc :: F) 3 49) (st : Str l a us) (st' : Str l a' [58, 47, 47]) (K : WP κ yc (pcc + 3) Lc (.int (Int32.ofNat s) :: Sc) F (l) k n) :
    WP κ y30 0 [.val (.ref a), .val (.ref a'), .unset] [] (fr κ yc pcc Lc Sc :: F) (l) k n := by
  obtain ⟨b, ho, hb⟩ := st
  obtain ⟨b', ho', hb'⟩ := st'
  refine wp_seg C (M30 hw) [(.aload_n 0, 1)] (by decide +kernel) (pc' := 1) (L' := [.val (.ref a), .val (.ref a'), .unset]) (S' := [.ref a]) rfl ?_
  refine wp_invokevirtual C (M30 hw) d30_1 (M1 hw) (Cl := "java/lang/String") (w78 hw) (w79 hw) (w81 hw) (w80 hw) (Or.inl ⟨_, (w81 hw)⟩) (by decide) (b := a) ho (S' := []) [] (lenOf pd1 rfl) rfl (L' := [.val (.ref a)]) rfl rfl (hR.push (d' := 1) (w' := 12) (Nat.le_of_ble_eq_true rfl) (Nat.le_of_ble_eq_true rfl)) ?_
  refine c_coder C hw hs (Meth.caller (M30 hw) d30_1) ho ?_
  refine wp_seg C (M30 hw) [(.istore_n 2, 1), (.iload_n 2, 1), (.aload_n 1, 1)] (by decide +kernel) (pc' := 7) (L' := [.val (.ref a), .val (.ref a'), .val (.int 0)]) (S' := [.ref a', .int 0]) rfl ?_
  refine wp_invokevirtual C (M30 hw) d30_7 (M1 hw) (Cl := "java/lang/String") (w78 hw) (w79 hw) (w81 hw) (w80 hw) (Or.inl ⟨_, (w81 hw)⟩) (by decide) (b := a') ho' (S' := [.int 0]) [] (lenOf pd1 rfl) rfl (L' := [.val (.ref a')]) rfl rfl (hR.push (d' := 1) (w' := 12) (Nat.le_of_ble_eq_true rfl) (Nat.le_of_ble_eq_true rfl)) ?_
  refine c_coder C hw hs (Meth.caller (M30 hw) d30_7) ho' ?_
  refine wp_icf C (M30 hw) d30_10 (XT.ii_ne_f (by decide)) ?_
  refine wp_seg C (M30 hw) [(.aload_n 0, 1)] (by decide +kernel) (pc' := 14) (L' := [.val (.ref a), .val (.ref a'), .val (.int 0)]) (S' := [.ref a]) rfl ?_
  refine wp_invokevirtual C (M30 hw) d30_14 (M3 hw) (Cl := "java/lang/String") (w21 hw) (w22 hw) (w24 hw) (w23 hw) (Or.inl ⟨_, (w24 hw)⟩) (by decide) (b := a) ho (S' := []) [] (lenOf pd3 rfl) rfl (L' := [.val (.ref a)]) rfl rfl (hR.push (d' := 1) (w' := 12) (Nat.le_of_ble_eq_true rfl) (Nat.le_of_ble_eq_true rfl)) ?_
  refine c_isl C hw hs (Meth.caller (M30 hw) d30_14) ho ?_
  refine wp_iff C (M30 hw) d30_17 (XT.i0_eq_f (by decide)) ?_
  refine wp_seg C (M30 hw) [(.aload_n 0, 1)] (by decide +kernel) (pc' := 21) (L' := [.val (.ref a), .val (.ref a'), .val (.int 0)]) (S' := [.ref a]) rfl ?_
  refine wp_getfield C (M30 hw) d30_21 (w28 hw) (Or.inl rfl) (a := a) (mu := false) (Cl := "java/lang/String") (fs := [("java/lang/String", "value", "[B", .ref b), ("java/lang/String", "coder", "B", .int 0)]) ho (List.mem_of_getElem? (i := 0) rfl) ?_
  refine wp_seg C (M30 hw) [(.aload_n 1, 1)] (by decide +kernel) (pc' := 25) (L' := [.val (.ref a), .val (.ref a'), .val (.int 0)]) (S' := [.ref a', .ref b]) rfl ?_
  refine wp_getfield C (M30 hw) d30_25 (w28 hw) (Or.inl rfl) (a := a') (mu := false) (Cl := "java/lang/String") (fs := [("java/lang/String", "value", "[B", .ref b'), ("java/lang/String", "coder", "B", .int 0)]) ho' (List.mem_of_getElem? (i := 0) rfl) ?_
  refine wp_invokestatic C (M30 hw) d30_28 (M29 hw) (w83 hw) (w84 hw) (w31 hw) (by decide) (S' := []) [.ref b, .ref b'] (lenOf pd29 rfl) rfl (L' := [.val (.ref b), .val (.ref b')]) rfl rfl (hR.push (d' := 1) (w' := 13) (Nat.le_of_ble_eq_true rfl) (Nat.le_of_ble_eq_true rfl)) ?_
  refine c_lx2 C hw hl h0 h3 hn e0 e1 e2 (Meth.caller (M30 hw) d30_28) (hR.push (d' := 2) (w' := 35) (Nat.le_of_ble_eq_true rfl) (Nat.le_of_ble_eq_true rfl)) hb hb' ?_
  refine wp_seg C (M30 hw) [(.goto 14, 3)] (by decide +kernel) (pc' := 45) (L' := [.val (.ref a), .val (.ref a'), .val (.int 0)]) (S' := [.int (Int32.ofNat s)]) rfl ?_
  exact wp_iret C (M30 hw) d30_45 rfl (t := .int) (by decide) rfl Cr K
theorem c_ps {κ : Cx} (C : Ok κ) (hw : Ws κ) (hs : StrS κ) (hst : kS κ = false) (wS : StrW κ) (hE : kE κ = consts_1) (hPP : kP κ = consts_1) {a : Addr} {p : Nat} {us : List UInt8} {s : Nat} (hl : us.length < 2 ^ 31) (h0 : 0 < s) (h3 : s + 3 ≤ us.length) (hn : ∀ t, t < s → us.getD t 0 ≠ 58) (e0 : us.getD s 0 = 58) (e1 : us.getD (s + 1) 0 = 47) (e2 : us.getD (s + 2) 0 = 47) (hp : (p < us.length ∧ ixc us 47 (us.length - (s + 3)) (s + 3) = Int32.ofNat p) ∨ (p = us.length ∧ ixc us 47 (us.length - (s + 3)) (s + 3) = -1)) {yc : MethodName} {pcc : Nat} {Lc : List Slot} {Sc : List Value} {F : List Frame} {l : List Chunk} {k n : Nat} (Cr : Caller κ yc pcc 3) (hR : Rm κ (fr κ yc pcc Lc Sc :: F) 4 64) (st : Str l a us) (K : WP κ yc (pcc + 3) Lc (.int (Int32.ofNat p) :: Sc) F (l) k n) :
    WP κ y31 0 [.val (.ref a), .unset] [] (fr κ yc pcc Lc Sc :: F) (l) k n := by
  have st0 := st
  obtain ⟨b, ho, hb⟩ := st
  refine wp_seg C (M31 hw) [(.aload_n 0, 1), (.bipush 47, 2), (.aload_n 0, 1)] (by decide +kernel) (pc' := 4) (L' := [.val (.ref a), .unset]) (S' := [.ref a, .int 47, .ref a]) rfl ?_
  refine wp_ldcP C hst wS (M31 hw) d31_4 (w72 hw) (by rw [hE]; exact List.mem_of_getElem? (i := 0) rfl) (by rw [hPP]; exact List.mem_of_getElem? (i := 0) rfl) [58, 47, 47] (by decide +kernel) (by decide) fun s1 s2 => ?_
  refine wp_invokevirtual C (M31 hw) d31_6 (M30 hw) (Cl := "java/lang/String") (w73 hw) (w74 hw) (w76 hw) (w75 hw) (Or.inl ⟨_, (w76 hw)⟩) (by decide) (b := a) (List.Mem.tail _ (List.Mem.tail _ ho)) (S' := [.int 47, .ref a]) [.ref s1] (lenOf pd30 rfl) rfl (L' := [.val (.ref a), .val (.ref s1), .unset]) rfl rfl (hR.push (d' := 1) (w' := 14) (Nat.le_of_ble_eq_true rfl) (Nat.le_of_ble_eq_true rfl)) ?_
  refine c_ixs C hw hs hl h0 h3 hn e0 e1 e2 (Meth.caller (M31 hw) d31_6) (hR.push (d' := 3) (w' := 49) (Nat.le_of_ble_eq_true rfl) (Nat.le_of_ble_eq_true rfl)) (st0.cons.cons) ⟨s2, (List.mem_of_getElem? (i := 0) rfl), (List.mem_of_getElem? (i := 1) rfl)⟩ ?_
  refine wp_ldcP C hst wS (M31 hw) d31_9 (w72 hw) (by rw [hE]; exact List.mem_of_getElem? (i := 0) rfl) (by rw [hPP]; exact List.mem_of_getElem? (i := 0) rfl) [58, 47, 47] (by decide +kernel) (by decide) fun s3 s4 => ?_
  refine wp_invokevirtual C (M31 hw) d31_11 (M2 hw) (Cl := "java/lang/String") (w89 hw) (w90 hw) (w92 hw) (w91 hw) (Or.inl ⟨_, (w92 hw)⟩) (by decide) (b := s3) (List.mem_of_getElem? (i := 0) rfl) (S' := [.int (Int32.ofNat s), .int 47, .ref a]) [] (lenOf pd2 rfl) rfl (L' := [.val (.ref s3)]) rfl rfl (hR.push (d' := 1) (w' := 12) (Nat.le_of_ble_eq_true rfl) (Nat.le_of_ble_eq_true rfl)) ?_
  refine c_len C hw hs (us := [58, 47, 47]) (Meth.caller (M31 hw) d31_11) (hR.push (d' := 2) (w' := 25) (Nat.le_of_ble_eq_true rfl) (Nat.le_of_ble_eq_true rfl)) ⟨s4, (List.mem_of_getElem? (i := 0) rfl), (List.mem_of_getElem? (i := 1) rfl)⟩ ?_
  refine wp_seg C (M31 hw) [(.iadd, 1)] (by decide +kernel) (pc' := 15) (L' := [.val (.ref a), .unset]) (S' := [.int ((Int32.ofNat s) + (3 : Int32)), .int 47, .ref a]) rfl ?_
  rw [show Int32.ofNat s + 3 = Int32.ofNat (s + 3) from add32n s 3]
  refine wp_drop ?_
  refine wp_drop ?_
  refine wp_drop ?_
  refine wp_drop ?_
  refine wp_invokevirtual C (M31 hw) d31_15 (M18 hw) (Cl := "java/lang/String") (w94 hw) (w95 hw) (w97 hw) (w96 hw) (Or.inl ⟨_, (w97 hw)⟩) (by decide) (b := a) ho (S' := []) [.int 47, .int (Int32.ofNat (s + 3))] (lenOf pd18 rfl) rfl (L' := [.val (.ref a), .val (.int 47), .val (.int (Int32.ofNat (s + 3)))]) rfl rfl (hR.push (d' := 1) (w' := 14) (Nat.le_of_ble_eq_true rfl) (Nat.le_of_ble_eq_true rfl)) ?_
  refine c_ix2 C hw hs (us := us) (c := 47) (i := s + 3) hl h3 (Meth.caller (M31 hw) d31_15) (hR.push (d' := 3) (w' := 46) (Nat.le_of_ble_eq_true rfl) (Nat.le_of_ble_eq_true rfl)) st0 ?_
  rcases hp with ⟨hp, ep⟩ | ⟨hp, ep⟩ <;> rw [ep]
  · refine wp_seg C (M31 hw) [(.istore_n 1, 1), (.iload_n 1, 1)] (by decide +kernel) (pc' := 20) (L' := [.val (.ref a), .val (.int (Int32.ofNat p))]) (S' := [.int (Int32.ofNat p)]) rfl ?_
    refine wp_ift C (M31 hw) d31_20 (XT.i0_ge_t (nn32 (by omega))) (pc' := 30) (by decide) ?_
    refine wp_seg C (M31 hw) [(.iload_n 1, 1)] (by decide +kernel) (pc' := 31) (L' := [.val (.ref a), .val (.int (Int32.ofNat p))]) (S' := [.int (Int32.ofNat p)]) rfl ?_
    exact wp_iret C (M31 hw) d31_31 rfl (t := .int) (by decide) rfl Cr K
  · refine wp_seg C (M31 hw) [(.istore_n 1, 1), (.iload_n 1, 1)] (by decide +kernel) (pc' := 20) (L' := [.val (.ref a), .val (.int (-1))]) (S' := [.int (-1)]) rfl ?_
    refine wp_iff C (M31 hw) d31_20 (XT.i0_ge_f (by decide)) ?_
    refine wp_seg C (M31 hw) [(.aload_n 0, 1)] (by decide +kernel) (pc' := 24) (L' := [.val (.ref a), .val (.int (-1))]) (S' := [.ref a]) rfl ?_
    refine wp_invokevirtual C (M31 hw) d31_24 (M2 hw) (Cl := "java/lang/String") (w89 hw) (w90 hw) (w92 hw) (w91 hw) (Or.inl ⟨_, (w92 hw)⟩) (by decide) (b := a) ho (S' := []) [] (lenOf pd2 rfl) rfl (L' := [.val (.ref a)]) rfl rfl (hR.push (d' := 1) (w' := 12) (Nat.le_of_ble_eq_true rfl) (Nat.le_of_ble_eq_true rfl)) ?_
    refine c_len C hw hs (Meth.caller (M31 hw) d31_24) (hR.push (d' := 2) (w' := 25) (Nat.le_of_ble_eq_true rfl) (Nat.le_of_ble_eq_true rfl)) st0 ?_
    refine wp_seg C (M31 hw) [(.goto 4, 3)] (by decide +kernel) (pc' := 31) (L' := [.val (.ref a), .val (.int (-1))]) (S' := [.int (Int32.ofNat us.length)]) rfl ?_
    rw [hp] at K
    exact wp_iret C (M31 hw) d31_31 rfl (t := .int) (by decide) rfl Cr K
theorem c_path {κ : Cx} (C : Ok κ) (hw : Ws κ) (hs : StrS κ) (hst : kS κ = false) (wS : StrW κ) (hE : kE κ = consts_1) (hPP : kP κ = consts_1) {a : Addr} {p m : Nat} {us : List UInt8} {s : Nat} (hl : us.length < 2 ^ 31) (h0 : 0 < s) (h3 : s + 3 ≤ us.length) (hn : ∀ t, t < s → us.getD t 0 ≠ 58) (e0 : us.getD s 0 = 58) (e1 : us.getD (s + 1) 0 = 47) (e2 : us.getD (s + 2) 0 = 47) (hp : (p < us.length ∧ ixc us 47 (us.length - (s + 3)) (s + 3) = Int32.ofNat p) ∨ (p = us.length ∧ ixc us 47 (us.length - (s + 3)) (s + 3) = -1)) (hpm : p + m ≤ us.length) (hl2 : us.length < 67108864) (hq : (p + m < us.length ∧ ixc us 63 (us.length - p) p = Int32.ofNat (p + m)) ∨ (p + m = us.length ∧ ixc us 63 (us.length - p) p = -1)) {yc : MethodName} {pcc : Nat} {Lc : List Slot} {Sc : List Value} {F : List Frame} {l : List Chunk} {k n : Nat} (Cr : Caller κ yc pcc 3) (hR : Rm κ (fr κ yc pcc Lc Sc :: F) 6 116) (st : Str l a us) (hk : k + 2 ≤ (kR κ).cells) (hn2 : n + (m + 4) ≤ (kR κ).slots) (K : ∀ a b, WP κ yc (pcc + 3) Lc (.ref a :: Sc) F (strO a b 0 :: strB b ((us.drop p).take m) :: l) (k + 2) (n + (m + 4))) :
    WP κ y32 0 [.val (.ref a), .unset, .unset] [] (fr κ yc pcc Lc Sc :: F) (l) k n := by
  have st0 := st
  obtain ⟨b, ho, hb⟩ := st
  refine wp_seg C (M32 hw) [(.aload_n 0, 1)] (by decide +kernel) (pc' := 1) (L' := [.val (.ref a), .unset, .unset]) (S' := [.ref a]) rfl ?_
  refine wp_invokestatic C (M32 hw) d32_1 (M31 hw) (w69 hw) (w70 hw) (w67 hw) (by decide) (S' := []) [.ref a] (lenOf pd31 rfl) rfl (L' := [.val (.ref a), .unset]) rfl rfl (hR.push (d' := 1) (w' := 13) (Nat.le_of_ble_eq_true rfl) (Nat.le_of_ble_eq_true rfl)) ?_
  refine c_ps C hw hs hst wS hE hPP hl h0 h3 hn e0 e1 e2 hp (Meth.caller (M32 hw) d32_1) (hR.push (d' := 4) (w' := 64) (Nat.le_of_ble_eq_true rfl) (Nat.le_of_ble_eq_true rfl)) st0 ?_
  refine wp_seg C (M32 hw) [(.istore_n 1, 1), (.aload_n 0, 1), (.bipush 63, 2), (.iload_n 1, 1)] (by decide +kernel) (pc' := 9) (L' := [.val (.ref a), .val (.int (Int32.ofNat p)), .unset]) (S' := [.int (Int32.ofNat p), .int 63, .ref a]) rfl ?_
  refine wp_invokevirtual C (M32 hw) d32_9 (M18 hw) (Cl := "java/lang/String") (w94 hw) (w95 hw) (w97 hw) (w96 hw) (Or.inl ⟨_, (w97 hw)⟩) (by decide) (b := a) ho (S' := []) [.int 63, .int (Int32.ofNat p)] (lenOf pd18 rfl) rfl (L' := [.val (.ref a), .val (.int 63), .val (.int (Int32.ofNat p))]) rfl rfl (hR.push (d' := 1) (w' := 14) (Nat.le_of_ble_eq_true rfl) (Nat.le_of_ble_eq_true rfl)) ?_
  refine c_ix2 C hw hs (us := us) (c := 63) (i := p) hl (by omega) (Meth.caller (M32 hw) d32_9) (hR.push (d' := 3) (w' := 46) (Nat.le_of_ble_eq_true rfl) (Nat.le_of_ble_eq_true rfl)) st0 ?_
  rcases hq with ⟨hq, eq⟩ | ⟨hq, eq⟩ <;> rw [eq]
  · refine wp_seg C (M32 hw) [(.istore_n 2, 1), (.aload_n 0, 1), (.iload_n 1, 1), (.iload_n 2, 1)] (by decide +kernel) (pc' := 16) (L' := [.val (.ref a), .val (.int (Int32.ofNat p)), .val (.int (Int32.ofNat (p + m)))]) (S' := [.int (Int32.ofNat (p + m)), .int (Int32.ofNat p), .ref a]) rfl ?_
    refine wp_ift C (M32 hw) d32_16 (XT.i0_ge_t (nn32 (by omega))) (pc' := 26) (by decide) ?_
    refine wp_seg C (M32 hw) [(.iload_n 2, 1)] (by decide +kernel) (pc' := 27) (L' := [.val (.ref a), .val (.int (Int32.ofNat p)), .val (.int (Int32.ofNat (p + m)))]) (S' := [.int (Int32.ofNat (p + m)), .int (Int32.ofNat p), .ref a]) rfl ?_
    refine wp_invokevirtual C (M32 hw) d32_27 (M26 hw) (Cl := "java/lang/String") (w116 hw) (w117 hw) (w119 hw) (w118 hw) (Or.inl ⟨_, (w119 hw)⟩) (by decide) (b := a) ho (S' := []) [.int (Int32.ofNat p), .int (Int32.ofNat (p + m))] (lenOf pd26 rfl) rfl (L' := [.val (.ref a), .val (.int (Int32.ofNat p)), .val (.int (Int32.ofNat (p + m))), .unset, .unset]) rfl rfl (hR.push (d' := 1) (w' := 16) (Nat.le_of_ble_eq_true rfl) (Nat.le_of_ble_eq_true rfl)) ?_
    refine c_sub C hw hs hst wS hE (us := us) (i := p) (m := m) hl (by omega) (by omega) (Meth.caller (M32 hw) d32_27) (hR.push (d' := 5) (w' := 102) (Nat.le_of_ble_eq_true rfl) (Nat.le_of_ble_eq_true rfl)) st0 hk hn2 fun a' b' => ?_
    exact wp_aret C (M32 hw) d32_30 rfl (t := .object "java/lang/String") rfl rfl Cr (K a' b')
  · refine wp_seg C (M32 hw) [(.istore_n 2, 1), (.aload_n 0, 1), (.iload_n 1, 1), (.iload_n 2, 1)] (by decide +kernel) (pc' := 16) (L' := [.val (.ref a), .val (.int (Int32.ofNat p)), .val (.int (-1))]) (S' := [.int (-1), .int (Int32.ofNat p), .ref a]) rfl ?_
    refine wp_iff C (M32 hw) d32_16 (XT.i0_ge_f (by decide)) ?_
    refine wp_seg C (M32 hw) [(.aload_n 0, 1)] (by decide +kernel) (pc' := 20) (L' := [.val (.ref a), .val (.int (Int32.ofNat p)), .val (.int (-1))]) (S' := [.ref a, .int (Int32.ofNat p), .ref a]) rfl ?_
    refine wp_invokevirtual C (M32 hw) d32_20 (M2 hw) (Cl := "java/lang/String") (w89 hw) (w90 hw) (w92 hw) (w91 hw) (Or.inl ⟨_, (w92 hw)⟩) (by decide) (b := a) ho (S' := [.int (Int32.ofNat p), .ref a]) [] (lenOf pd2 rfl) rfl (L' := [.val (.ref a)]) rfl rfl (hR.push (d' := 1) (w' := 12) (Nat.le_of_ble_eq_true rfl) (Nat.le_of_ble_eq_true rfl)) ?_
    refine c_len C hw hs (Meth.caller (M32 hw) d32_20) (hR.push (d' := 2) (w' := 25) (Nat.le_of_ble_eq_true rfl) (Nat.le_of_ble_eq_true rfl)) st0 ?_
    rw [← hq]
    refine wp_seg C (M32 hw) [(.goto 4, 3)] (by decide +kernel) (pc' := 27) (L' := [.val (.ref a), .val (.int (Int32.ofNat p)), .val (.int (-1))]) (S' := [.int (Int32.ofNat (p + m)), .int (Int32.ofNat p), .ref a]) rfl ?_
    refine wp_invokevirtual C (M32 hw) d32_27 (M26 hw) (Cl := "java/lang/String") (w116 hw) (w117 hw) (w119 hw) (w118 hw) (Or.inl ⟨_, (w119 hw)⟩) (by decide) (b := a) ho (S' := []) [.int (Int32.ofNat p), .int (Int32.ofNat (p + m))] (lenOf pd26 rfl) rfl (L' := [.val (.ref a), .val (.int (Int32.ofNat p)), .val (.int (Int32.ofNat (p + m))), .unset, .unset]) rfl rfl (hR.push (d' := 1) (w' := 16) (Nat.le_of_ble_eq_true rfl) (Nat.le_of_ble_eq_true rfl)) ?_
    refine c_sub C hw hs hst wS hE (us := us) (i := p) (m := m) hl (by omega) (by omega) (Meth.caller (M32 hw) d32_27) (hR.push (d' := 5) (w' := 102) (Nat.le_of_ble_eq_true rfl) (Nat.le_of_ble_eq_true rfl)) st0 hk hn2 fun a' b' => ?_
    exact wp_aret C (M32 hw) d32_30 rfl (t := .object "java/lang/String") rfl rfl Cr (K a' b')
theorem c_same {κ : Cx} (C : Ok κ) (hw : Ws κ) (hs : StrS κ) {a c : Addr} {mc : Bool} {us : List UInt8} {p m j : Nat} (hj : j < 8) (hl : us.length = 16) (hpm : p + m ≤ 16) {yc : MethodName} {pcc : Nat} {Lc : List Slot} {Sc : List Value} {F : List Frame} {l : List Chunk} {k n : Nat} (Cr : Caller κ yc pcc 3) (hR : Rm κ (fr κ yc pcc Lc Sc :: F) 5 68) (st : Str l a ((us.drop p).take m)) (hc : (c, mc, .inr (.char, us.map chv)) ∈ l) (K : WP κ yc (pcc + 3) Lc (.int 1 :: Sc) F (l) k n) :
    WP κ y33 0 [.val (.ref a), .val (.ref c), .val (.int (Int32.ofNat p)), .val (.int (Int32.ofNat j))] [] (fr κ yc pcc Lc Sc :: F) (l) k n := by
  have er : ((us.drop p).take m).length = m := by simp; omega
  have st0 := st
  obtain ⟨b, ho, hb⟩ := st
  refine wp_seg C (M33 hw) [(.iload_n 3, 1), (.aload_n 0, 1)] (by decide +kernel) (pc' := 2) (L' := [.val (.ref a), .val (.ref c), .val (.int (Int32.ofNat p)), .val (.int (Int32.ofNat j))]) (S' := [.ref a, .int (Int32.ofNat j)]) rfl ?_
  refine wp_invokevirtual C (M33 hw) d33_2 (M2 hw) (Cl := "java/lang/String") (w149 hw) (w90 hw) (w92 hw) (w91 hw) (Or.inl ⟨_, (w92 hw)⟩) (by decide) (b := a) ho (S' := [.int (Int32.ofNat j)]) [] (lenOf pd2 rfl) rfl (L' := [.val (.ref a)]) rfl rfl (hR.push (d' := 1) (w' := 12) (Nat.le_of_ble_eq_true rfl) (Nat.le_of_ble_eq_true rfl)) ?_
  refine c_len C hw hs (Meth.caller (M33 hw) d33_2) (hR.push (d' := 2) (w' := 25) (Nat.le_of_ble_eq_true rfl) (Nat.le_of_ble_eq_true rfl)) st0 ?_
  rw [er]
  by_cases h1 : j < m
  · refine wp_icf C (M33 hw) d33_5 (XT.ii_ge_f ((lt32 (by omega) (by omega)).mpr h1)) ?_
    refine wp_seg C (M33 hw) [(.iload_n 2, 1), (.iload_n 3, 1), (.iadd, 1)] (by decide +kernel) (pc' := 11) (L' := [.val (.ref a), .val (.ref c), .val (.int (Int32.ofNat p)), .val (.int (Int32.ofNat j))]) (S' := [.int ((Int32.ofNat p) + (Int32.ofNat j))]) rfl ?_
    rw [add32n]
    refine wp_seg C (M33 hw) [(.bipush 16, 2)] (by decide +kernel) (pc' := 13) (L' := [.val (.ref a), .val (.ref c), .val (.int (Int32.ofNat p)), .val (.int (Int32.ofNat j))]) (S' := [.int 16, .int (Int32.ofNat (p + j))]) rfl ?_
    refine wp_icf C (M33 hw) d33_13 (XT.ii_ge_f ((lt32 (b := 16) (by omega) (by decide)).mpr (by omega))) ?_
    refine wp_seg C (M33 hw) [(.aload_n 0, 1), (.iload_n 3, 1)] (by decide +kernel) (pc' := 18) (L' := [.val (.ref a), .val (.ref c), .val (.int (Int32.ofNat p)), .val (.int (Int32.ofNat j))]) (S' := [.int (Int32.ofNat j), .ref a]) rfl ?_
    refine wp_invokevirtual C (M33 hw) d33_18 (M7 hw) (Cl := "java/lang/String") (w16 hw) (w17 hw) (w19 hw) (w18 hw) (Or.inl ⟨_, (w19 hw)⟩) (by decide) (b := a) ho (S' := []) [.int (Int32.ofNat j)] (lenOf pd7 rfl) rfl (L' := [.val (.ref a), .val (.int (Int32.ofNat j))]) rfl rfl (hR.push (d' := 1) (w' := 13) (Nat.le_of_ble_eq_true rfl) (Nat.le_of_ble_eq_true rfl)) ?_
    refine c_chat C hw hs (us := ((us.drop p).take m)) (i := j) (by omega) (by omega) (Meth.caller (M33 hw) d33_18) (hR.push (d' := 4) (w' := 53) (Nat.le_of_ble_eq_true rfl) (Nat.le_of_ble_eq_true rfl)) st0 ?_
    rw [show ((us.drop p).take m).getD j 0 = us.getD (p + j) 0 from by simp [List.getElem?_take, h1, List.getElem?_drop]]
    refine wp_seg C (M33 hw) [(.aload_n 1, 1), (.iload_n 2, 1), (.iload_n 3, 1), (.iadd, 1)] (by decide +kernel) (pc' := 25) (L' := [.val (.ref a), .val (.ref c), .val (.int (Int32.ofNat p)), .val (.int (Int32.ofNat j))]) (S' := [.int ((Int32.ofNat p) + (Int32.ofNat j)), .ref c, .int (ch8 (us.getD (p + j) 0))]) rfl ?_
    rw [add32n]
    refine wp_caload C (M33 hw) d33_25 (a := c) hc (i := (p + j)) (Ix32 (by omega)) (v := .int (ch8 (us.getD (p + j) 0))) (getD_map (by omega)) ?_
    refine wp_icf C (M33 hw) d33_26 (XT.ii_ne_f rfl) ?_
    refine wp_seg C (M33 hw) [(.iconst 1, 1), (.goto 4, 3)] (by decide +kernel) (pc' := 34) (L' := [.val (.ref a), .val (.ref c), .val (.int (Int32.ofNat p)), .val (.int (Int32.ofNat j))]) (S' := [.int 1]) rfl ?_
    exact wp_iret C (M33 hw) d33_34 rfl (t := .boolean) (by decide) rfl Cr K
  · refine wp_ict C (M33 hw) d33_5 (XT.ii_ge_t (fun q => h1 ((lt32 (by omega) (by omega)).mp q))) (pc' := 29) (by decide) ?_
    refine wp_seg C (M33 hw) [(.iconst 1, 1), (.goto 4, 3)] (by decide +kernel) (pc' := 34) (L' := [.val (.ref a), .val (.ref c), .val (.int (Int32.ofNat p)), .val (.int (Int32.ofNat j))]) (S' := [.int 1]) rfl ?_
    exact wp_iret C (M33 hw) d33_34 rfl (t := .boolean) (by decide) rfl Cr K
set_option maxRecDepth 65536 in
set_option maxHeartbeats 4000000 in
theorem law85 {κ : Cx} (C : Ok κ) (hw : Ws κ) (hr : kR κ = room_1) (hx : kx κ = maxLocals) (hst : kS κ = false) (hE : kE κ = consts_1) (hPP : kP κ = consts_1) (hs : StrS κ) (wS : StrW κ) {f hh qq np : Int32} {bits : Int64} {s p m : Nat} (h0 : 0 < s) (h5 : s ≤ 5) (h1 : s + 3 < p) (h2 : p ≤ 16) (h3 : (p < p + m ∧ p + m ≤ 16) ∨ (p = 16 ∧ p + m = 16)) :
    WP κ y0 85 [.val (.int f), .val (.int hh), .val (.int qq), .val (.long bits), .second, .val (.int (Int32.ofNat s)), .val (.int (Int32.ofNat (s + 3))), .val (.int np), .val (.int (Int32.ofNat p)), .val (.int (Int32.ofNat (p + m))), .unset, .unset, .unset] [] [] [] 12 600 := by
  refine wp_seg C (M0 hw) [(.bipush 16, 2)] (by decide +kernel) (pc' := 87) (L' := [.val (.int f), .val (.int hh), .val (.int qq), .val (.long bits), .second, .val (.int (Int32.ofNat s)), .val (.int (Int32.ofNat (s + 3))), .val (.int np), .val (.int (Int32.ofNat p)), .val (.int (Int32.ofNat (p + m))), .unset, .unset, .unset]) (S' := [.int 16]) rfl ?_
  refine wp_newarray C (M0 hw) d0_87 rfl (w2 hw) (len := 16) ⟨by decide, by decide⟩ (by decide) (rc hr (Nat.le_of_ble_eq_true rfl)) (rs hr (Nat.le_of_ble_eq_true rfl)) (vs := [.int 0, .int 0, .int 0, .int 0, .int 0, .int 0, .int 0, .int 0, .int 0, .int 0, .int 0, .int 0, .int 0, .int 0, .int 0, .int 0]) rfl fun a1 => ?_
  refine wp_seg C (M0 hw) [(.astore 10, 2), (.aload 10, 2), (.iconst 0, 1), (.iconst 0, 1), (.iload 5, 2), (.iload 6, 2), (.iload 8, 2), (.iload 9, 2), (.lload_n 3, 1)] (by decide +kernel) (pc' := 104) (L' := [.val (.int f), .val (.int hh), .val (.int qq), .val (.long bits), .second, .val (.int (Int32.ofNat s)), .val (.int (Int32.ofNat (s + 3))), .val (.int np), .val (.int (Int32.ofNat p)), .val (.int (Int32.ofNat (p + m))), .val (.ref a1), .unset, .unset]) (S' := [.long bits, .int (Int32.ofNat (p + m)), .int (Int32.ofNat p), .int (Int32.ofNat (s + 3)), .int (Int32.ofNat s), .int 0, .int 0, .ref a1]) rfl ?_
  refine wp_invokestatic C (M0 hw) d0_104 (M27 hw) (w3 hw) (w4 hw) (w5 hw) (by decide) (S' := [.int 0, .ref a1]) [.int 0, .int (Int32.ofNat s), .int (Int32.ofNat (s + 3)), .int (Int32.ofNat p), .int (Int32.ofNat (p + m)), .long bits] (lenOf pd27 rfl) rfl (L' := [.val (.int 0), .val (.int (Int32.ofNat s)), .val (.int (Int32.ofNat (s + 3))), .val (.int (Int32.ofNat p)), .val (.int (Int32.ofNat (p + m))), .val (.long bits), .second, .unset]) rfl rfl (Rm.law (d := 1) (w := 19) hr hx (Nat.le_of_ble_eq_true rfl) (Nat.le_of_ble_eq_true rfl)) ?_
  refine c_at C hw hs hst wS hE hPP (i := 0) (by decide) (by omega) (by omega) (by omega) (Meth.caller (M0 hw) d0_104) (Rm.law (d := 5) (w := 72) hr hx (Nat.le_of_ble_eq_true rfl) (Nat.le_of_ble_eq_true rfl))  fun u0 g0 => ?_
  refine wp_castore C (M0 hw) d0_107 (i := 0) (j := 0) rfl ⟨by decide, by decide⟩ (Nat.le_of_ble_eq_true rfl) (v' := .int (ch8 u0)) (congrArg Value.int (ch8_i2c _)) (l' := [(a1, true, .inr (.char, [.int (ch8 u0), .int 0, .int 0, .int 0, .int 0, .int 0, .int 0, .int 0, .int 0, .int 0, .int 0, .int 0, .int 0, .int 0, .int 0, .int 0]))]) rfl ?_
  refine wp_seg C (M0 hw) [(.aload 10, 2), (.iconst 1, 1), (.iconst 1, 1), (.iload 5, 2), (.iload 6, 2), (.iload 8, 2), (.iload 9, 2), (.lload_n 3, 1)] (by decide +kernel) (pc' := 121) (L' := [.val (.int f), .val (.int hh), .val (.int qq), .val (.long bits), .second, .val (.int (Int32.ofNat s)), .val (.int (Int32.ofNat (s + 3))), .val (.int np), .val (.int (Int32.ofNat p)), .val (.int (Int32.ofNat (p + m))), .val (.ref a1), .unset, .unset]) (S' := [.long bits, .int (Int32.ofNat (p + m)), .int (Int32.ofNat p), .int (Int32.ofNat (s + 3)), .int (Int32.ofNat s), .int 1, .int 1, .ref a1]) rfl ?_
  refine wp_invokestatic C (M0 hw) d0_121 (M27 hw) (w3 hw) (w4 hw) (w5 hw) (by decide) (S' := [.int 1, .ref a1]) [.int 1, .int (Int32.ofNat s), .int (Int32.ofNat (s + 3)), .int (Int32.ofNat p), .int (Int32.ofNat (p + m)), .long bits] (lenOf pd27 rfl) rfl (L' := [.val (.int 1), .val (.int (Int32.ofNat s)), .val (.int (Int32.ofNat (s + 3))), .val (.int (Int32.ofNat p)), .val (.int (Int32.ofNat (p + m))), .val (.long bits), .second, .unset]) rfl rfl (Rm.law (d := 1) (w := 19) hr hx (Nat.le_of_ble_eq_true rfl) (Nat.le_of_ble_eq_true rfl)) ?_
  refine c_at C hw hs hst wS hE hPP (i := 1) (by decide) (by omega) (by omega) (by omega) (Meth.caller (M0 hw) d0_121) (Rm.law (d := 5) (w := 72) hr hx (Nat.le_of_ble_eq_true rfl) (Nat.le_of_ble_eq_true rfl))  fun u1 g1 => ?_
  refine wp_castore C (M0 hw) d0_124 (i := 0) (j := 1) rfl ⟨by decide, by decide⟩ (Nat.le_of_ble_eq_true rfl) (v' := .int (ch8 u1)) (congrArg Value.int (ch8_i2c _)) (l' := [(a1, true, .inr (.char, [.int (ch8 u0), .int (ch8 u1), .int 0, .int 0, .int 0, .int 0, .int 0, .int 0, .int 0, .int 0, .int 0, .int 0, .int 0, .int 0, .int 0, .int 0]))]) rfl ?_
  refine wp_seg C (M0 hw) [(.aload 10, 2), (.iconst 2, 1), (.iconst 2, 1), (.iload 5, 2), (.iload 6, 2), (.iload 8, 2), (.iload 9, 2), (.lload_n 3, 1)] (by decide +kernel) (pc' := 138) (L' := [.val (.int f), .val (.int hh), .val (.int qq), .val (.long bits), .second, .val (.int (Int32.ofNat s)), .val (.int (Int32.ofNat (s + 3))), .val (.int np), .val (.int (Int32.ofNat p)), .val (.int (Int32.ofNat (p + m))), .val (.ref a1), .unset, .unset]) (S' := [.long bits, .int (Int32.ofNat (p + m)), .int (Int32.ofNat p), .int (Int32.ofNat (s + 3)), .int (Int32.ofNat s), .int 2, .int 2, .ref a1]) rfl ?_
  refine wp_invokestatic C (M0 hw) d0_138 (M27 hw) (w3 hw) (w4 hw) (w5 hw) (by decide) (S' := [.int 2, .ref a1]) [.int 2, .int (Int32.ofNat s), .int (Int32.ofNat (s + 3)), .int (Int32.ofNat p), .int (Int32.ofNat (p + m)), .long bits] (lenOf pd27 rfl) rfl (L' := [.val (.int 2), .val (.int (Int32.ofNat s)), .val (.int (Int32.ofNat (s + 3))), .val (.int (Int32.ofNat p)), .val (.int (Int32.ofNat (p + m))), .val (.long bits), .second, .unset]) rfl rfl (Rm.law (d := 1) (w := 19) hr hx (Nat.le_of_ble_eq_true rfl) (Nat.le_of_ble_eq_true rfl)) ?_
  refine c_at C hw hs hst wS hE hPP (i := 2) (by decide) (by omega) (by omega) (by omega) (Meth.caller (M0 hw) d0_138) (Rm.law (d := 5) (w := 72) hr hx (Nat.le_of_ble_eq_true rfl) (Nat.le_of_ble_eq_true rfl))  fun u2 g2 => ?_
  refine wp_castore C (M0 hw) d0_141 (i := 0) (j := 2) rfl ⟨by decide, by decide⟩ (Nat.le_of_ble_eq_true rfl) (v' := .int (ch8 u2)) (congrArg Value.int (ch8_i2c _)) (l' := [(a1, true, .inr (.char, [.int (ch8 u0), .int (ch8 u1), .int (ch8 u2), .int 0, .int 0, .int 0, .int 0, .int 0, .int 0, .int 0, .int 0, .int 0, .int 0, .int 0, .int 0, .int 0]))]) rfl ?_
  refine wp_seg C (M0 hw) [(.aload 10, 2), (.iconst 3, 1), (.iconst 3, 1), (.iload 5, 2), (.iload 6, 2), (.iload 8, 2), (.iload 9, 2), (.lload_n 3, 1)] (by decide +kernel) (pc' := 155) (L' := [.val (.int f), .val (.int hh), .val (.int qq), .val (.long bits), .second, .val (.int (Int32.ofNat s)), .val (.int (Int32.ofNat (s + 3))), .val (.int np), .val (.int (Int32.ofNat p)), .val (.int (Int32.ofNat (p + m))), .val (.ref a1), .unset, .unset]) (S' := [.long bits, .int (Int32.ofNat (p + m)), .int (Int32.ofNat p), .int (Int32.ofNat (s + 3)), .int (Int32.ofNat s), .int 3, .int 3, .ref a1]) rfl ?_
  refine wp_invokestatic C (M0 hw) d0_155 (M27 hw) (w3 hw) (w4 hw) (w5 hw) (by decide) (S' := [.int 3, .ref a1]) [.int 3, .int (Int32.ofNat s), .int (Int32.ofNat (s + 3)), .int (Int32.ofNat p), .int (Int32.ofNat (p + m)), .long bits] (lenOf pd27 rfl) rfl (L' := [.val (.int 3), .val (.int (Int32.ofNat s)), .val (.int (Int32.ofNat (s + 3))), .val (.int (Int32.ofNat p)), .val (.int (Int32.ofNat (p + m))), .val (.long bits), .second, .unset]) rfl rfl (Rm.law (d := 1) (w := 19) hr hx (Nat.le_of_ble_eq_true rfl) (Nat.le_of_ble_eq_true rfl)) ?_
  refine c_at C hw hs hst wS hE hPP (i := 3) (by decide) (by omega) (by omega) (by omega) (Meth.caller (M0 hw) d0_155) (Rm.law (d := 5) (w := 72) hr hx (Nat.le_of_ble_eq_true rfl) (Nat.le_of_ble_eq_true rfl))  fun u3 g3 => ?_
  refine wp_castore C (M0 hw) d0_158 (i := 0) (j := 3) rfl ⟨by decide, by decide⟩ (Nat.le_of_ble_eq_true rfl) (v' := .int (ch8 u3)) (congrArg Value.int (ch8_i2c _)) (l' := [(a1, true, .inr (.char, [.int (ch8 u0), .int (ch8 u1), .int (ch8 u2), .int (ch8 u3), .int 0, .int 0, .int 0, .int 0, .int 0, .int 0, .int 0, .int 0, .int 0, .int 0, .int 0, .int 0]))]) rfl ?_
  refine wp_seg C (M0 hw) [(.aload 10, 2), (.iconst 4, 1), (.iconst 4, 1), (.iload 5, 2), (.iload 6, 2), (.iload 8, 2), (.iload 9, 2), (.lload_n 3, 1)] (by decide +kernel) (pc' := 172) (L' := [.val (.int f), .val (.int hh), .val (.int qq), .val (.long bits), .second, .val (.int (Int32.ofNat s)), .val (.int (Int32.ofNat (s + 3))), .val (.int np), .val (.int (Int32.ofNat p)), .val (.int (Int32.ofNat (p + m))), .val (.ref a1), .unset, .unset]) (S' := [.long bits, .int (Int32.ofNat (p + m)), .int (Int32.ofNat p), .int (Int32.ofNat (s + 3)), .int (Int32.ofNat s), .int 4, .int 4, .ref a1]) rfl ?_
  refine wp_invokestatic C (M0 hw) d0_172 (M27 hw) (w3 hw) (w4 hw) (w5 hw) (by decide) (S' := [.int 4, .ref a1]) [.int 4, .int (Int32.ofNat s), .int (Int32.ofNat (s + 3)), .int (Int32.ofNat p), .int (Int32.ofNat (p + m)), .long bits] (lenOf pd27 rfl) rfl (L' := [.val (.int 4), .val (.int (Int32.ofNat s)), .val (.int (Int32.ofNat (s + 3))), .val (.int (Int32.ofNat p)), .val (.int (Int32.ofNat (p + m))), .val (.long bits), .second, .unset]) rfl rfl (Rm.law (d := 1) (w := 19) hr hx (Nat.le_of_ble_eq_true rfl) (Nat.le_of_ble_eq_true rfl)) ?_
  refine c_at C hw hs hst wS hE hPP (i := 4) (by decide) (by omega) (by omega) (by omega) (Meth.caller (M0 hw) d0_172) (Rm.law (d := 5) (w := 72) hr hx (Nat.le_of_ble_eq_true rfl) (Nat.le_of_ble_eq_true rfl))  fun u4 g4 => ?_
  refine wp_castore C (M0 hw) d0_175 (i := 0) (j := 4) rfl ⟨by decide, by decide⟩ (Nat.le_of_ble_eq_true rfl) (v' := .int (ch8 u4)) (congrArg Value.int (ch8_i2c _)) (l' := [(a1, true, .inr (.char, [.int (ch8 u0), .int (ch8 u1), .int (ch8 u2), .int (ch8 u3), .int (ch8 u4), .int 0, .int 0, .int 0, .int 0, .int 0, .int 0, .int 0, .int 0, .int 0, .int 0, .int 0]))]) rfl ?_
  refine wp_seg C (M0 hw) [(.aload 10, 2), (.iconst 5, 1), (.iconst 5, 1), (.iload 5, 2), (.iload 6, 2), (.iload 8, 2), (.iload 9, 2), (.lload_n 3, 1)] (by decide +kernel) (pc' := 189) (L' := [.val (.int f), .val (.int hh), .val (.int qq), .val (.long bits), .second, .val (.int (Int32.ofNat s)), .val (.int (Int32.ofNat (s + 3))), .val (.int np), .val (.int (Int32.ofNat p)), .val (.int (Int32.ofNat (p + m))), .val (.ref a1), .unset, .unset]) (S' := [.long bits, .int (Int32.ofNat (p + m)), .int (Int32.ofNat p), .int (Int32.ofNat (s + 3)), .int (Int32.ofNat s), .int 5, .int 5, .ref a1]) rfl ?_
  refine wp_invokestatic C (M0 hw) d0_189 (M27 hw) (w3 hw) (w4 hw) (w5 hw) (by decide) (S' := [.int 5, .ref a1]) [.int 5, .int (Int32.ofNat s), .int (Int32.ofNat (s + 3)), .int (Int32.ofNat p), .int (Int32.ofNat (p + m)), .long bits] (lenOf pd27 rfl) rfl (L' := [.val (.int 5), .val (.int (Int32.ofNat s)), .val (.int (Int32.ofNat (s + 3))), .val (.int (Int32.ofNat p)), .val (.int (Int32.ofNat (p + m))), .val (.long bits), .second, .unset]) rfl rfl (Rm.law (d := 1) (w := 19) hr hx (Nat.le_of_ble_eq_true rfl) (Nat.le_of_ble_eq_true rfl)) ?_
  refine c_at C hw hs hst wS hE hPP (i := 5) (by decide) (by omega) (by omega) (by omega) (Meth.caller (M0 hw) d0_189) (Rm.law (d := 5) (w := 72) hr hx (Nat.le_of_ble_eq_true rfl) (Nat.le_of_ble_eq_true rfl))  fun u5 g5 => ?_
  refine wp_castore C (M0 hw) d0_192 (i := 0) (j := 5) rfl ⟨by decide, by decide⟩ (Nat.le_of_ble_eq_true rfl) (v' := .int (ch8 u5)) (congrArg Value.int (ch8_i2c _)) (l' := [(a1, true, .inr (.char, [.int (ch8 u0), .int (ch8 u1), .int (ch8 u2), .int (ch8 u3), .int (ch8 u4), .int (ch8 u5), .int 0, .int 0, .int 0, .int 0, .int 0, .int 0, .int 0, .int 0, .int 0, .int 0]))]) rfl ?_
  refine wp_seg C (M0 hw) [(.aload 10, 2), (.bipush 6, 2), (.bipush 6, 2), (.iload 5, 2), (.iload 6, 2), (.iload 8, 2), (.iload 9, 2), (.lload_n 3, 1)] (by decide +kernel) (pc' := 208) (L' := [.val (.int f), .val (.int hh), .val (.int qq), .val (.long bits), .second, .val (.int (Int32.ofNat s)), .val (.int (Int32.ofNat (s + 3))), .val (.int np), .val (.int (Int32.ofNat p)), .val (.int (Int32.ofNat (p + m))), .val (.ref a1), .unset, .unset]) (S' := [.long bits, .int (Int32.ofNat (p + m)), .int (Int32.ofNat p), .int (Int32.ofNat (s + 3)), .int (Int32.ofNat s), .int 6, .int 6, .ref a1]) rfl ?_
  refine wp_invokestatic C (M0 hw) d0_208 (M27 hw) (w3 hw) (w4 hw) (w5 hw) (by decide) (S' := [.int 6, .ref a1]) [.int 6, .int (Int32.ofNat s), .int (Int32.ofNat (s + 3)), .int (Int32.ofNat p), .int (Int32.ofNat (p + m)), .long bits] (lenOf pd27 rfl) rfl (L' := [.val (.int 6), .val (.int (Int32.ofNat s)), .val (.int (Int32.ofNat (s + 3))), .val (.int (Int32.ofNat p)), .val (.int (Int32.ofNat (p + m))), .val (.long bits), .second, .unset]) rfl rfl (Rm.law (d := 1) (w := 19) hr hx (Nat.le_of_ble_eq_true rfl) (Nat.le_of_ble_eq_true rfl)) ?_
  refine c_at C hw hs hst wS hE hPP (i := 6) (by decide) (by omega) (by omega) (by omega) (Meth.caller (M0 hw) d0_208) (Rm.law (d := 5) (w := 72) hr hx (Nat.le_of_ble_eq_true rfl) (Nat.le_of_ble_eq_true rfl))  fun u6 g6 => ?_
  refine wp_castore C (M0 hw) d0_211 (i := 0) (j := 6) rfl ⟨by decide, by decide⟩ (Nat.le_of_ble_eq_true rfl) (v' := .int (ch8 u6)) (congrArg Value.int (ch8_i2c _)) (l' := [(a1, true, .inr (.char, [.int (ch8 u0), .int (ch8 u1), .int (ch8 u2), .int (ch8 u3), .int (ch8 u4), .int (ch8 u5), .int (ch8 u6), .int 0, .int 0, .int 0, .int 0, .int 0, .int 0, .int 0, .int 0, .int 0]))]) rfl ?_
  refine wp_seg C (M0 hw) [(.aload 10, 2), (.bipush 7, 2), (.bipush 7, 2), (.iload 5, 2), (.iload 6, 2), (.iload 8, 2), (.iload 9, 2), (.lload_n 3, 1)] (by decide +kernel) (pc' := 227) (L' := [.val (.int f), .val (.int hh), .val (.int qq), .val (.long bits), .second, .val (.int (Int32.ofNat s)), .val (.int (Int32.ofNat (s + 3))), .val (.int np), .val (.int (Int32.ofNat p)), .val (.int (Int32.ofNat (p + m))), .val (.ref a1), .unset, .unset]) (S' := [.long bits, .int (Int32.ofNat (p + m)), .int (Int32.ofNat p), .int (Int32.ofNat (s + 3)), .int (Int32.ofNat s), .int 7, .int 7, .ref a1]) rfl ?_
  refine wp_invokestatic C (M0 hw) d0_227 (M27 hw) (w3 hw) (w4 hw) (w5 hw) (by decide) (S' := [.int 7, .ref a1]) [.int 7, .int (Int32.ofNat s), .int (Int32.ofNat (s + 3)), .int (Int32.ofNat p), .int (Int32.ofNat (p + m)), .long bits] (lenOf pd27 rfl) rfl (L' := [.val (.int 7), .val (.int (Int32.ofNat s)), .val (.int (Int32.ofNat (s + 3))), .val (.int (Int32.ofNat p)), .val (.int (Int32.ofNat (p + m))), .val (.long bits), .second, .unset]) rfl rfl (Rm.law (d := 1) (w := 19) hr hx (Nat.le_of_ble_eq_true rfl) (Nat.le_of_ble_eq_true rfl)) ?_
  refine c_at C hw hs hst wS hE hPP (i := 7) (by decide) (by omega) (by omega) (by omega) (Meth.caller (M0 hw) d0_227) (Rm.law (d := 5) (w := 72) hr hx (Nat.le_of_ble_eq_true rfl) (Nat.le_of_ble_eq_true rfl))  fun u7 g7 => ?_
  refine wp_castore C (M0 hw) d0_230 (i := 0) (j := 7) rfl ⟨by decide, by decide⟩ (Nat.le_of_ble_eq_true rfl) (v' := .int (ch8 u7)) (congrArg Value.int (ch8_i2c _)) (l' := [(a1, true, .inr (.char, [.int (ch8 u0), .int (ch8 u1), .int (ch8 u2), .int (ch8 u3), .int (ch8 u4), .int (ch8 u5), .int (ch8 u6), .int (ch8 u7), .int 0, .int 0, .int 0, .int 0, .int 0, .int 0, .int 0, .int 0]))]) rfl ?_
  refine wp_seg C (M0 hw) [(.aload 10, 2), (.bipush 8, 2), (.bipush 8, 2), (.iload 5, 2), (.iload 6, 2), (.iload 8, 2), (.iload 9, 2), (.lload_n 3, 1)] (by decide +kernel) (pc' := 246) (L' := [.val (.int f), .val (.int hh), .val (.int qq), .val (.long bits), .second, .val (.int (Int32.ofNat s)), .val (.int (Int32.ofNat (s + 3))), .val (.int np), .val (.int (Int32.ofNat p)), .val (.int (Int32.ofNat (p + m))), .val (.ref a1), .unset, .unset]) (S' := [.long bits, .int (Int32.ofNat (p + m)), .int (Int32.ofNat p), .int (Int32.ofNat (s + 3)), .int (Int32.ofNat s), .int 8, .int 8, .ref a1]) rfl ?_
  refine wp_invokestatic C (M0 hw) d0_246 (M27 hw) (w3 hw) (w4 hw) (w5 hw) (by decide) (S' := [.int 8, .ref a1]) [.int 8, .int (Int32.ofNat s), .int (Int32.ofNat (s + 3)), .int (Int32.ofNat p), .int (Int32.ofNat (p + m)), .long bits] (lenOf pd27 rfl) rfl (L' := [.val (.int 8), .val (.int (Int32.ofNat s)), .val (.int (Int32.ofNat (s + 3))), .val (.int (Int32.ofNat p)), .val (.int (Int32.ofNat (p + m))), .val (.long bits), .second, .unset]) rfl rfl (Rm.law (d := 1) (w := 19) hr hx (Nat.le_of_ble_eq_true rfl) (Nat.le_of_ble_eq_true rfl)) ?_
  refine c_at C hw hs hst wS hE hPP (i := 8) (by decide) (by omega) (by omega) (by omega) (Meth.caller (M0 hw) d0_246) (Rm.law (d := 5) (w := 72) hr hx (Nat.le_of_ble_eq_true rfl) (Nat.le_of_ble_eq_true rfl))  fun u8 g8 => ?_
  refine wp_castore C (M0 hw) d0_249 (i := 0) (j := 8) rfl ⟨by decide, by decide⟩ (Nat.le_of_ble_eq_true rfl) (v' := .int (ch8 u8)) (congrArg Value.int (ch8_i2c _)) (l' := [(a1, true, .inr (.char, [.int (ch8 u0), .int (ch8 u1), .int (ch8 u2), .int (ch8 u3), .int (ch8 u4), .int (ch8 u5), .int (ch8 u6), .int (ch8 u7), .int (ch8 u8), .int 0, .int 0, .int 0, .int 0, .int 0, .int 0, .int 0]))]) rfl ?_
  refine wp_seg C (M0 hw) [(.aload 10, 2), (.bipush 9, 2), (.bipush 9, 2), (.iload 5, 2), (.iload 6, 2), (.iload 8, 2), (.iload 9, 2), (.lload_n 3, 1)] (by decide +kernel) (pc' := 265) (L' := [.val (.int f), .val (.int hh), .val (.int qq), .val (.long bits), .second, .val (.int (Int32.ofNat s)), .val (.int (Int32.ofNat (s + 3))), .val (.int np), .val (.int (Int32.ofNat p)), .val (.int (Int32.ofNat (p + m))), .val (.ref a1), .unset, .unset]) (S' := [.long bits, .int (Int32.ofNat (p + m)), .int (Int32.ofNat p), .int (Int32.ofNat (s + 3)), .int (Int32.ofNat s), .int 9, .int 9, .ref a1]) rfl ?_
  refine wp_invokestatic C (M0 hw) d0_265 (M27 hw) (w3 hw) (w4 hw) (w5 hw) (by decide) (S' := [.int 9, .ref a1]) [.int 9, .int (Int32.ofNat s), .int (Int32.ofNat (s + 3)), .int (Int32.ofNat p), .int (Int32.ofNat (p + m)), .long bits] (lenOf pd27 rfl) rfl (L' := [.val (.int 9), .val (.int (Int32.ofNat s)), .val (.int (Int32.ofNat (s + 3))), .val (.int (Int32.ofNat p)), .val (.int (Int32.ofNat (p + m))), .val (.long bits), .second, .unset]) rfl rfl (Rm.law (d := 1) (w := 19) hr hx (Nat.le_of_ble_eq_true rfl) (Nat.le_of_ble_eq_true rfl)) ?_
  refine c_at C hw hs hst wS hE hPP (i := 9) (by decide) (by omega) (by omega) (by omega) (Meth.caller (M0 hw) d0_265) (Rm.law (d := 5) (w := 72) hr hx (Nat.le_of_ble_eq_true rfl) (Nat.le_of_ble_eq_true rfl))  fun u9 g9 => ?_
  refine wp_castore C (M0 hw) d0_268 (i := 0) (j := 9) rfl ⟨by decide, by decide⟩ (Nat.le_of_ble_eq_true rfl) (v' := .int (ch8 u9)) (congrArg Value.int (ch8_i2c _)) (l' := [(a1, true, .inr (.char, [.int (ch8 u0), .int (ch8 u1), .int (ch8 u2), .int (ch8 u3), .int (ch8 u4), .int (ch8 u5), .int (ch8 u6), .int (ch8 u7), .int (ch8 u8), .int (ch8 u9), .int 0, .int 0, .int 0, .int 0, .int 0, .int 0]))]) rfl ?_
  refine wp_seg C (M0 hw) [(.aload 10, 2), (.bipush 10, 2), (.bipush 10, 2), (.iload 5, 2), (.iload 6, 2), (.iload 8, 2), (.iload 9, 2), (.lload_n 3, 1)] (by decide +kernel) (pc' := 284) (L' := [.val (.int f), .val (.int hh), .val (.int qq), .val (.long bits), .second, .val (.int (Int32.ofNat s)), .val (.int (Int32.ofNat (s + 3))), .val (.int np), .val (.int (Int32.ofNat p)), .val (.int (Int32.ofNat (p + m))), .val (.ref a1), .unset, .unset]) (S' := [.long bits, .int (Int32.ofNat (p + m)), .int (Int32.ofNat p), .int (Int32.ofNat (s + 3)), .int (Int32.ofNat s), .int 10, .int 10, .ref a1]) rfl ?_
  refine wp_invokestatic C (M0 hw) d0_284 (M27 hw) (w3 hw) (w4 hw) (w5 hw) (by decide) (S' := [.int 10, .ref a1]) [.int 10, .int (Int32.ofNat s), .int (Int32.ofNat (s + 3)), .int (Int32.ofNat p), .int (Int32.ofNat (p + m)), .long bits] (lenOf pd27 rfl) rfl (L' := [.val (.int 10), .val (.int (Int32.ofNat s)), .val (.int (Int32.ofNat (s + 3))), .val (.int (Int32.ofNat p)), .val (.int (Int32.ofNat (p + m))), .val (.long bits), .second, .unset]) rfl rfl (Rm.law (d := 1) (w := 19) hr hx (Nat.le_of_ble_eq_true rfl) (Nat.le_of_ble_eq_true rfl)) ?_
  refine c_at C hw hs hst wS hE hPP (i := 10) (by decide) (by omega) (by omega) (by omega) (Meth.caller (M0 hw) d0_284) (Rm.law (d := 5) (w := 72) hr hx (Nat.le_of_ble_eq_true rfl) (Nat.le_of_ble_eq_true rfl))  fun u10 g10 => ?_
  refine wp_castore C (M0 hw) d0_287 (i := 0) (j := 10) rfl ⟨by decide, by decide⟩ (Nat.le_of_ble_eq_true rfl) (v' := .int (ch8 u10)) (congrArg Value.int (ch8_i2c _)) (l' := [(a1, true, .inr (.char, [.int (ch8 u0), .int (ch8 u1), .int (ch8 u2), .int (ch8 u3), .int (ch8 u4), .int (ch8 u5), .int (ch8 u6), .int (ch8 u7), .int (ch8 u8), .int (ch8 u9), .int (ch8 u10), .int 0, .int 0, .int 0, .int 0, .int 0]))]) rfl ?_
  refine wp_seg C (M0 hw) [(.aload 10, 2), (.bipush 11, 2), (.bipush 11, 2), (.iload 5, 2), (.iload 6, 2), (.iload 8, 2), (.iload 9, 2), (.lload_n 3, 1)] (by decide +kernel) (pc' := 303) (L' := [.val (.int f), .val (.int hh), .val (.int qq), .val (.long bits), .second, .val (.int (Int32.ofNat s)), .val (.int (Int32.ofNat (s + 3))), .val (.int np), .val (.int (Int32.ofNat p)), .val (.int (Int32.ofNat (p + m))), .val (.ref a1), .unset, .unset]) (S' := [.long bits, .int (Int32.ofNat (p + m)), .int (Int32.ofNat p), .int (Int32.ofNat (s + 3)), .int (Int32.ofNat s), .int 11, .int 11, .ref a1]) rfl ?_
  refine wp_invokestatic C (M0 hw) d0_303 (M27 hw) (w3 hw) (w4 hw) (w5 hw) (by decide) (S' := [.int 11, .ref a1]) [.int 11, .int (Int32.ofNat s), .int (Int32.ofNat (s + 3)), .int (Int32.ofNat p), .int (Int32.ofNat (p + m)), .long bits] (lenOf pd27 rfl) rfl (L' := [.val (.int 11), .val (.int (Int32.ofNat s)), .val (.int (Int32.ofNat (s + 3))), .val (.int (Int32.ofNat p)), .val (.int (Int32.ofNat (p + m))), .val (.long bits), .second, .unset]) rfl rfl (Rm.law (d := 1) (w := 19) hr hx (Nat.le_of_ble_eq_true rfl) (Nat.le_of_ble_eq_true rfl)) ?_
  refine c_at C hw hs hst wS hE hPP (i := 11) (by decide) (by omega) (by omega) (by omega) (Meth.caller (M0 hw) d0_303) (Rm.law (d := 5) (w := 72) hr hx (Nat.le_of_ble_eq_true rfl) (Nat.le_of_ble_eq_true rfl))  fun u11 g11 => ?_
  refine wp_castore C (M0 hw) d0_306 (i := 0) (j := 11) rfl ⟨by decide, by decide⟩ (Nat.le_of_ble_eq_true rfl) (v' := .int (ch8 u11)) (congrArg Value.int (ch8_i2c _)) (l' := [(a1, true, .inr (.char, [.int (ch8 u0), .int (ch8 u1), .int (ch8 u2), .int (ch8 u3), .int (ch8 u4), .int (ch8 u5), .int (ch8 u6), .int (ch8 u7), .int (ch8 u8), .int (ch8 u9), .int (ch8 u10), .int (ch8 u11), .int 0, .int 0, .int 0, .int 0]))]) rfl ?_
  refine wp_seg C (M0 hw) [(.aload 10, 2), (.bipush 12, 2), (.bipush 12, 2), (.iload 5, 2), (.iload 6, 2), (.iload 8, 2), (.iload 9, 2), (.lload_n 3, 1)] (by decide +kernel) (pc' := 322) (L' := [.val (.int f), .val (.int hh), .val (.int qq), .val (.long bits), .second, .val (.int (Int32.ofNat s)), .val (.int (Int32.ofNat (s + 3))), .val (.int np), .val (.int (Int32.ofNat p)), .val (.int (Int32.ofNat (p + m))), .val (.ref a1), .unset, .unset]) (S' := [.long bits, .int (Int32.ofNat (p + m)), .int (Int32.ofNat p), .int (Int32.ofNat (s + 3)), .int (Int32.ofNat s), .int 12, .int 12, .ref a1]) rfl ?_
  refine wp_invokestatic C (M0 hw) d0_322 (M27 hw) (w3 hw) (w4 hw) (w5 hw) (by decide) (S' := [.int 12, .ref a1]) [.int 12, .int (Int32.ofNat s), .int (Int32.ofNat (s + 3)), .int (Int32.ofNat p), .int (Int32.ofNat (p + m)), .long bits] (lenOf pd27 rfl) rfl (L' := [.val (.int 12), .val (.int (Int32.ofNat s)), .val (.int (Int32.ofNat (s + 3))), .val (.int (Int32.ofNat p)), .val (.int (Int32.ofNat (p + m))), .val (.long bits), .second, .unset]) rfl rfl (Rm.law (d := 1) (w := 19) hr hx (Nat.le_of_ble_eq_true rfl) (Nat.le_of_ble_eq_true rfl)) ?_
  refine c_at C hw hs hst wS hE hPP (i := 12) (by decide) (by omega) (by omega) (by omega) (Meth.caller (M0 hw) d0_322) (Rm.law (d := 5) (w := 72) hr hx (Nat.le_of_ble_eq_true rfl) (Nat.le_of_ble_eq_true rfl))  fun u12 g12 => ?_
  refine wp_castore C (M0 hw) d0_325 (i := 0) (j := 12) rfl ⟨by decide, by decide⟩ (Nat.le_of_ble_eq_true rfl) (v' := .int (ch8 u12)) (congrArg Value.int (ch8_i2c _)) (l' := [(a1, true, .inr (.char, [.int (ch8 u0), .int (ch8 u1), .int (ch8 u2), .int (ch8 u3), .int (ch8 u4), .int (ch8 u5), .int (ch8 u6), .int (ch8 u7), .int (ch8 u8), .int (ch8 u9), .int (ch8 u10), .int (ch8 u11), .int (ch8 u12), .int 0, .int 0, .int 0]))]) rfl ?_
  refine wp_seg C (M0 hw) [(.aload 10, 2), (.bipush 13, 2), (.bipush 13, 2), (.iload 5, 2), (.iload 6, 2), (.iload 8, 2), (.iload 9, 2), (.lload_n 3, 1)] (by decide +kernel) (pc' := 341) (L' := [.val (.int f), .val (.int hh), .val (.int qq), .val (.long bits), .second, .val (.int (Int32.ofNat s)), .val (.int (Int32.ofNat (s + 3))), .val (.int np), .val (.int (Int32.ofNat p)), .val (.int (Int32.ofNat (p + m))), .val (.ref a1), .unset, .unset]) (S' := [.long bits, .int (Int32.ofNat (p + m)), .int (Int32.ofNat p), .int (Int32.ofNat (s + 3)), .int (Int32.ofNat s), .int 13, .int 13, .ref a1]) rfl ?_
  refine wp_invokestatic C (M0 hw) d0_341 (M27 hw) (w3 hw) (w4 hw) (w5 hw) (by decide) (S' := [.int 13, .ref a1]) [.int 13, .int (Int32.ofNat s), .int (Int32.ofNat (s + 3)), .int (Int32.ofNat p), .int (Int32.ofNat (p + m)), .long bits] (lenOf pd27 rfl) rfl (L' := [.val (.int 13), .val (.int (Int32.ofNat s)), .val (.int (Int32.ofNat (s + 3))), .val (.int (Int32.ofNat p)), .val (.int (Int32.ofNat (p + m))), .val (.long bits), .second, .unset]) rfl rfl (Rm.law (d := 1) (w := 19) hr hx (Nat.le_of_ble_eq_true rfl) (Nat.le_of_ble_eq_true rfl)) ?_
  refine c_at C hw hs hst wS hE hPP (i := 13) (by decide) (by omega) (by omega) (by omega) (Meth.caller (M0 hw) d0_341) (Rm.law (d := 5) (w := 72) hr hx (Nat.le_of_ble_eq_true rfl) (Nat.le_of_ble_eq_true rfl))  fun u13 g13 => ?_
  refine wp_castore C (M0 hw) d0_344 (i := 0) (j := 13) rfl ⟨by decide, by decide⟩ (Nat.le_of_ble_eq_true rfl) (v' := .int (ch8 u13)) (congrArg Value.int (ch8_i2c _)) (l' := [(a1, true, .inr (.char, [.int (ch8 u0), .int (ch8 u1), .int (ch8 u2), .int (ch8 u3), .int (ch8 u4), .int (ch8 u5), .int (ch8 u6), .int (ch8 u7), .int (ch8 u8), .int (ch8 u9), .int (ch8 u10), .int (ch8 u11), .int (ch8 u12), .int (ch8 u13), .int 0, .int 0]))]) rfl ?_
  refine wp_seg C (M0 hw) [(.aload 10, 2), (.bipush 14, 2), (.bipush 14, 2), (.iload 5, 2), (.iload 6, 2), (.iload 8, 2), (.iload 9, 2), (.lload_n 3, 1)] (by decide +kernel) (pc' := 360) (L' := [.val (.int f), .val (.int hh), .val (.int qq), .val (.long bits), .second, .val (.int (Int32.ofNat s)), .val (.int (Int32.ofNat (s + 3))), .val (.int np), .val (.int (Int32.ofNat p)), .val (.int (Int32.ofNat (p + m))), .val (.ref a1), .unset, .unset]) (S' := [.long bits, .int (Int32.ofNat (p + m)), .int (Int32.ofNat p), .int (Int32.ofNat (s + 3)), .int (Int32.ofNat s), .int 14, .int 14, .ref a1]) rfl ?_
  refine wp_invokestatic C (M0 hw) d0_360 (M27 hw) (w3 hw) (w4 hw) (w5 hw) (by decide) (S' := [.int 14, .ref a1]) [.int 14, .int (Int32.ofNat s), .int (Int32.ofNat (s + 3)), .int (Int32.ofNat p), .int (Int32.ofNat (p + m)), .long bits] (lenOf pd27 rfl) rfl (L' := [.val (.int 14), .val (.int (Int32.ofNat s)), .val (.int (Int32.ofNat (s + 3))), .val (.int (Int32.ofNat p)), .val (.int (Int32.ofNat (p + m))), .val (.long bits), .second, .unset]) rfl rfl (Rm.law (d := 1) (w := 19) hr hx (Nat.le_of_ble_eq_true rfl) (Nat.le_of_ble_eq_true rfl)) ?_
  refine c_at C hw hs hst wS hE hPP (i := 14) (by decide) (by omega) (by omega) (by omega) (Meth.caller (M0 hw) d0_360) (Rm.law (d := 5) (w := 72) hr hx (Nat.le_of_ble_eq_true rfl) (Nat.le_of_ble_eq_true rfl))  fun u14 g14 => ?_
  refine wp_castore C (M0 hw) d0_363 (i := 0) (j := 14) rfl ⟨by decide, by decide⟩ (Nat.le_of_ble_eq_true rfl) (v' := .int (ch8 u14)) (congrArg Value.int (ch8_i2c _)) (l' := [(a1, true, .inr (.char, [.int (ch8 u0), .int (ch8 u1), .int (ch8 u2), .int (ch8 u3), .int (ch8 u4), .int (ch8 u5), .int (ch8 u6), .int (ch8 u7), .int (ch8 u8), .int (ch8 u9), .int (ch8 u10), .int (ch8 u11), .int (ch8 u12), .int (ch8 u13), .int (ch8 u14), .int 0]))]) rfl ?_
  refine wp_seg C (M0 hw) [(.aload 10, 2), (.bipush 15, 2), (.bipush 15, 2), (.iload 5, 2), (.iload 6, 2), (.iload 8, 2), (.iload 9, 2), (.lload_n 3, 1)] (by decide +kernel) (pc' := 379) (L' := [.val (.int f), .val (.int hh), .val (.int qq), .val (.long bits), .second, .val (.int (Int32.ofNat s)), .val (.int (Int32.ofNat (s + 3))), .val (.int np), .val (.int (Int32.ofNat p)), .val (.int (Int32.ofNat (p + m))), .val (.ref a1), .unset, .unset]) (S' := [.long bits, .int (Int32.ofNat (p + m)), .int (Int32.ofNat p), .int (Int32.ofNat (s + 3)), .int (Int32.ofNat s), .int 15, .int 15, .ref a1]) rfl ?_
  refine wp_invokestatic C (M0 hw) d0_379 (M27 hw) (w3 hw) (w4 hw) (w5 hw) (by decide) (S' := [.int 15, .ref a1]) [.int 15, .int (Int32.ofNat s), .int (Int32.ofNat (s + 3)), .int (Int32.ofNat p), .int (Int32.ofNat (p + m)), .long bits] (lenOf pd27 rfl) rfl (L' := [.val (.int 15), .val (.int (Int32.ofNat s)), .val (.int (Int32.ofNat (s + 3))), .val (.int (Int32.ofNat p)), .val (.int (Int32.ofNat (p + m))), .val (.long bits), .second, .unset]) rfl rfl (Rm.law (d := 1) (w := 19) hr hx (Nat.le_of_ble_eq_true rfl) (Nat.le_of_ble_eq_true rfl)) ?_
  refine c_at C hw hs hst wS hE hPP (i := 15) (by decide) (by omega) (by omega) (by omega) (Meth.caller (M0 hw) d0_379) (Rm.law (d := 5) (w := 72) hr hx (Nat.le_of_ble_eq_true rfl) (Nat.le_of_ble_eq_true rfl))  fun u15 g15 => ?_
  refine wp_castore C (M0 hw) d0_382 (i := 0) (j := 15) rfl ⟨by decide, by decide⟩ (Nat.le_of_ble_eq_true rfl) (v' := .int (ch8 u15)) (congrArg Value.int (ch8_i2c _)) (l' := [(a1, true, .inr (.char, [.int (ch8 u0), .int (ch8 u1), .int (ch8 u2), .int (ch8 u3), .int (ch8 u4), .int (ch8 u5), .int (ch8 u6), .int (ch8 u7), .int (ch8 u8), .int (ch8 u9), .int (ch8 u10), .int (ch8 u11), .int (ch8 u12), .int (ch8 u13), .int (ch8 u14), .int (ch8 u15)]))]) rfl ?_
  refine wp_new C (M0 hw) d0_383 (w44 hw) (w10 hw) (w9 hw) (cls_Str hw) (rc hr (Nat.le_of_ble_eq_true rfl)) (rs hr (Nat.le_of_ble_eq_true rfl)) fun a2 => ?_
  refine wp_seg C (M0 hw) [(.dup, 1), (.aload 10, 2)] (by decide +kernel) (pc' := 389) (L' := [.val (.int f), .val (.int hh), .val (.int qq), .val (.long bits), .second, .val (.int (Int32.ofNat s)), .val (.int (Int32.ofNat (s + 3))), .val (.int np), .val (.int (Int32.ofNat p)), .val (.int (Int32.ofNat (p + m))), .val (.ref a1), .unset, .unset]) (S' := [.ref a1, .ref a2, .ref a2]) rfl ?_
  refine wp_init C (M0 hw) d0_389 (M12 hw) rfl (w45 hw) (w46 hw) (by decide) (S' := [.ref a2]) a2 [.ref a1] (lenOf pd12 rfl) rfl (L' := [.val (.ref a2), .val (.ref a1)]) rfl rfl (Rm.law (d := 1) (w := 13) hr hx (Nat.le_of_ble_eq_true rfl) (Nat.le_of_ble_eq_true rfl)) ?_
  refine c_init1 C hw (us := [u0, u1, u2, u3, u4, u5, u6, u7, u8, u9, u10, u11, u12, u13, u14, u15]) hs (Nat.le_of_ble_eq_true rfl) (Nat.le_of_ble_eq_true rfl) (Nat.succ_pos _) (Meth.caller (M0 hw) d0_389) (Rm.law (d := 4) (w := 65) hr hx (Nat.le_of_ble_eq_true rfl) (Nat.le_of_ble_eq_true rfl)) (mc := true) (List.mem_of_getElem? (i := 0) rfl) (rc hr (Nat.le_of_ble_eq_true rfl)) (rs hr (Nat.le_of_ble_eq_true rfl)) fun b3 => ?_
  have H : ∀ i, i < 16 → AtOK i s p (p + m) (([u0, u1, u2, u3, u4, u5, u6, u7, u8, u9, u10, u11, u12, u13, u14, u15] : List UInt8).getD i 0) := by
    intro i hi
    match i, hi with
    | 0, _ => exact g0
    | 1, _ => exact g1
    | 2, _ => exact g2
    | 3, _ => exact g3
    | 4, _ => exact g4
    | 5, _ => exact g5
    | 6, _ => exact g6
    | 7, _ => exact g7
    | 8, _ => exact g8
    | 9, _ => exact g9
    | 10, _ => exact g10
    | 11, _ => exact g11
    | 12, _ => exact g12
    | 13, _ => exact g13
    | 14, _ => exact g14
    | 15, _ => exact g15
    | i + 16, h => exact absurd h (by omega)
  obtain ⟨A, B⟩ := at_ix rfl H h1 h2 h3
  obtain ⟨D, E0, E1, E2⟩ := at_sc H (by omega)
  refine wp_seg C (M0 hw) [(.astore 11, 2), (.aload 11, 2)] (by decide +kernel) (pc' := 396) (L' := [.val (.int f), .val (.int hh), .val (.int qq), .val (.long bits), .second, .val (.int (Int32.ofNat s)), .val (.int (Int32.ofNat (s + 3))), .val (.int np), .val (.int (Int32.ofNat p)), .val (.int (Int32.ofNat (p + m))), .val (.ref a1), .val (.ref a2), .unset]) (S' := [.ref a2]) rfl ?_
  refine wp_invokestatic C (M0 hw) d0_396 (M32 hw) (w65 hw) (w66 hw) (w67 hw) (by decide) (S' := []) [.ref a2] (lenOf pd32 rfl) rfl (L' := [.val (.ref a2), .unset, .unset]) rfl rfl (Rm.law (d := 1) (w := 14) hr hx (Nat.le_of_ble_eq_true rfl) (Nat.le_of_ble_eq_true rfl)) ?_
  refine c_path C hw hs hst wS hE hPP (us := [u0, u1, u2, u3, u4, u5, u6, u7, u8, u9, u10, u11, u12, u13, u14, u15]) (p := p) (m := m) (Nat.le_of_ble_eq_true rfl) (by omega) (by simp; omega) D E0 E1 E2 A (by simp; omega) (Nat.le_of_ble_eq_true rfl) B (Meth.caller (M0 hw) d0_396) (Rm.law (d := 6) (w := 116) hr hx (Nat.le_of_ble_eq_true rfl) (Nat.le_of_ble_eq_true rfl)) ⟨b3, (List.mem_of_getElem? (i := 0) rfl), (List.mem_of_getElem? (i := 1) rfl)⟩ (rc hr (Nat.le_of_ble_eq_true rfl)) (Nat.le_trans (show _ ≤ 6000 from by simp; omega) (rs hr (Nat.le_of_ble_eq_true rfl))) fun r v => ?_
  refine wp_seg C (M0 hw) [(.astore 12, 2), (.aload 12, 2)] (by decide +kernel) (pc' := 403) (L' := [.val (.int f), .val (.int hh), .val (.int qq), .val (.long bits), .second, .val (.int (Int32.ofNat s)), .val (.int (Int32.ofNat (s + 3))), .val (.int np), .val (.int (Int32.ofNat p)), .val (.int (Int32.ofNat (p + m))), .val (.ref a1), .val (.ref a2), .val (.ref r)]) (S' := [.ref r]) rfl ?_
  refine wp_invokevirtual C (M0 hw) d0_403 (M2 hw) (Cl := "java/lang/String") (w149 hw) (w90 hw) (w92 hw) (w91 hw) (Or.inl ⟨_, (w92 hw)⟩) (by decide) (b := r) (List.mem_of_getElem? (i := 0) rfl) (S' := []) [] (lenOf pd2 rfl) rfl (L' := [.val (.ref r)]) rfl rfl (Rm.law (d := 1) (w := 12) hr hx (Nat.le_of_ble_eq_true rfl) (Nat.le_of_ble_eq_true rfl)) ?_
  refine c_len C hw (us := ([u0, u1, u2, u3, u4, u5, u6, u7, u8, u9, u10, u11, u12, u13, u14, u15].drop p).take m) hs (Meth.caller (M0 hw) d0_403) (Rm.law (d := 2) (w := 25) hr hx (Nat.le_of_ble_eq_true rfl) (Nat.le_of_ble_eq_true rfl)) ⟨v, (List.mem_of_getElem? (i := 0) rfl), (List.mem_of_getElem? (i := 1) rfl)⟩ ?_
  rw [show (([u0, u1, u2, u3, u4, u5, u6, u7, u8, u9, u10, u11, u12, u13, u14, u15] : List UInt8).drop p |>.take m).length = m from by simp; omega]
  refine wp_seg C (M0 hw) [(.iload 9, 2), (.iload 8, 2), (.isub, 1)] (by decide +kernel) (pc' := 411) (L' := [.val (.int f), .val (.int hh), .val (.int qq), .val (.long bits), .second, .val (.int (Int32.ofNat s)), .val (.int (Int32.ofNat (s + 3))), .val (.int np), .val (.int (Int32.ofNat p)), .val (.int (Int32.ofNat (p + m))), .val (.ref a1), .val (.ref a2), .val (.ref r)]) (S' := [.int ((Int32.ofNat (p + m)) - (Int32.ofNat p)), .int (Int32.ofNat m)]) rfl ?_
  rw [sub32n (show p ≤ p + m by omega), show p + m - p = m from by omega]
  refine wp_icf C (M0 hw) d0_411 (XT.ii_ne_f rfl) ?_
  refine wp_seg C (M0 hw) [(.aload 12, 2), (.aload 10, 2), (.iload 8, 2), (.iconst 0, 1)] (by decide +kernel) (pc' := 421) (L' := [.val (.int f), .val (.int hh), .val (.int qq), .val (.long bits), .second, .val (.int (Int32.ofNat s)), .val (.int (Int32.ofNat (s + 3))), .val (.int np), .val (.int (Int32.ofNat p)), .val (.int (Int32.ofNat (p + m))), .val (.ref a1), .val (.ref a2), .val (.ref r)]) (S' := [.int 0, .int (Int32.ofNat p), .ref a1, .ref r]) rfl ?_
  refine wp_invokestatic C (M0 hw) d0_421 (M33 hw) (w150 hw) (w151 hw) (w5 hw) (by decide) (S' := []) [.ref r, .ref a1, .int (Int32.ofNat p), .int 0] (lenOf pd33 rfl) rfl (L' := [.val (.ref r), .val (.ref a1), .val (.int (Int32.ofNat p)), .val (.int 0)]) rfl rfl (Rm.law (d := 1) (w := 15) hr hx (Nat.le_of_ble_eq_true rfl) (Nat.le_of_ble_eq_true rfl)) ?_
  refine c_same C hw (mc := true) hs (us := [u0, u1, u2, u3, u4, u5, u6, u7, u8, u9, u10, u11, u12, u13, u14, u15]) (p := p) (m := m) (j := 0) (by decide) rfl (by omega) (Meth.caller (M0 hw) d0_421) (Rm.law (d := 5) (w := 68) hr hx (Nat.le_of_ble_eq_true rfl) (Nat.le_of_ble_eq_true rfl)) ⟨v, (List.mem_of_getElem? (i := 0) rfl), (List.mem_of_getElem? (i := 1) rfl)⟩ (List.mem_of_getElem? (i := 4) rfl) ?_
  refine wp_iff C (M0 hw) d0_424 (XT.i0_eq_f (by decide)) ?_
  refine wp_seg C (M0 hw) [(.aload 12, 2), (.aload 10, 2), (.iload 8, 2), (.iconst 1, 1)] (by decide +kernel) (pc' := 434) (L' := [.val (.int f), .val (.int hh), .val (.int qq), .val (.long bits), .second, .val (.int (Int32.ofNat s)), .val (.int (Int32.ofNat (s + 3))), .val (.int np), .val (.int (Int32.ofNat p)), .val (.int (Int32.ofNat (p + m))), .val (.ref a1), .val (.ref a2), .val (.ref r)]) (S' := [.int 1, .int (Int32.ofNat p), .ref a1, .ref r]) rfl ?_
  refine wp_invokestatic C (M0 hw) d0_434 (M33 hw) (w150 hw) (w151 hw) (w5 hw) (by decide) (S' := []) [.ref r, .ref a1, .int (Int32.ofNat p), .int 1] (lenOf pd33 rfl) rfl (L' := [.val (.ref r), .val (.ref a1), .val (.int (Int32.ofNat p)), .val (.int 1)]) rfl rfl (Rm.law (d := 1) (w := 15) hr hx (Nat.le_of_ble_eq_true rfl) (Nat.le_of_ble_eq_true rfl)) ?_
  refine c_same C hw (mc := true) hs (us := [u0, u1, u2, u3, u4, u5, u6, u7, u8, u9, u10, u11, u12, u13, u14, u15]) (p := p) (m := m) (j := 1) (by decide) rfl (by omega) (Meth.caller (M0 hw) d0_434) (Rm.law (d := 5) (w := 68) hr hx (Nat.le_of_ble_eq_true rfl) (Nat.le_of_ble_eq_true rfl)) ⟨v, (List.mem_of_getElem? (i := 0) rfl), (List.mem_of_getElem? (i := 1) rfl)⟩ (List.mem_of_getElem? (i := 4) rfl) ?_
  refine wp_iff C (M0 hw) d0_437 (XT.i0_eq_f (by decide)) ?_
  refine wp_seg C (M0 hw) [(.aload 12, 2), (.aload 10, 2), (.iload 8, 2), (.iconst 2, 1)] (by decide +kernel) (pc' := 447) (L' := [.val (.int f), .val (.int hh), .val (.int qq), .val (.long bits), .second, .val (.int (Int32.ofNat s)), .val (.int (Int32.ofNat (s + 3))), .val (.int np), .val (.int (Int32.ofNat p)), .val (.int (Int32.ofNat (p + m))), .val (.ref a1), .val (.ref a2), .val (.ref r)]) (S' := [.int 2, .int (Int32.ofNat p), .ref a1, .ref r]) rfl ?_
  refine wp_invokestatic C (M0 hw) d0_447 (M33 hw) (w150 hw) (w151 hw) (w5 hw) (by decide) (S' := []) [.ref r, .ref a1, .int (Int32.ofNat p), .int 2] (lenOf pd33 rfl) rfl (L' := [.val (.ref r), .val (.ref a1), .val (.int (Int32.ofNat p)), .val (.int 2)]) rfl rfl (Rm.law (d := 1) (w := 15) hr hx (Nat.le_of_ble_eq_true rfl) (Nat.le_of_ble_eq_true rfl)) ?_
  refine c_same C hw (mc := true) hs (us := [u0, u1, u2, u3, u4, u5, u6, u7, u8, u9, u10, u11, u12, u13, u14, u15]) (p := p) (m := m) (j := 2) (by decide) rfl (by omega) (Meth.caller (M0 hw) d0_447) (Rm.law (d := 5) (w := 68) hr hx (Nat.le_of_ble_eq_true rfl) (Nat.le_of_ble_eq_true rfl)) ⟨v, (List.mem_of_getElem? (i := 0) rfl), (List.mem_of_getElem? (i := 1) rfl)⟩ (List.mem_of_getElem? (i := 4) rfl) ?_
  refine wp_iff C (M0 hw) d0_450 (XT.i0_eq_f (by decide)) ?_
  refine wp_seg C (M0 hw) [(.aload 12, 2), (.aload 10, 2), (.iload 8, 2), (.iconst 3, 1)] (by decide +kernel) (pc' := 460) (L' := [.val (.int f), .val (.int hh), .val (.int qq), .val (.long bits), .second, .val (.int (Int32.ofNat s)), .val (.int (Int32.ofNat (s + 3))), .val (.int np), .val (.int (Int32.ofNat p)), .val (.int (Int32.ofNat (p + m))), .val (.ref a1), .val (.ref a2), .val (.ref r)]) (S' := [.int 3, .int (Int32.ofNat p), .ref a1, .ref r]) rfl ?_
  refine wp_invokestatic C (M0 hw) d0_460 (M33 hw) (w150 hw) (w151 hw) (w5 hw) (by decide) (S' := []) [.ref r, .ref a1, .int (Int32.ofNat p), .int 3] (lenOf pd33 rfl) rfl (L' := [.val (.ref r), .val (.ref a1), .val (.int (Int32.ofNat p)), .val (.int 3)]) rfl rfl (Rm.law (d := 1) (w := 15) hr hx (Nat.le_of_ble_eq_true rfl) (Nat.le_of_ble_eq_true rfl)) ?_
  refine c_same C hw (mc := true) hs (us := [u0, u1, u2, u3, u4, u5, u6, u7, u8, u9, u10, u11, u12, u13, u14, u15]) (p := p) (m := m) (j := 3) (by decide) rfl (by omega) (Meth.caller (M0 hw) d0_460) (Rm.law (d := 5) (w := 68) hr hx (Nat.le_of_ble_eq_true rfl) (Nat.le_of_ble_eq_true rfl)) ⟨v, (List.mem_of_getElem? (i := 0) rfl), (List.mem_of_getElem? (i := 1) rfl)⟩ (List.mem_of_getElem? (i := 4) rfl) ?_
  refine wp_iff C (M0 hw) d0_463 (XT.i0_eq_f (by decide)) ?_
  refine wp_seg C (M0 hw) [(.aload 12, 2), (.aload 10, 2), (.iload 8, 2), (.iconst 4, 1)] (by decide +kernel) (pc' := 473) (L' := [.val (.int f), .val (.int hh), .val (.int qq), .val (.long bits), .second, .val (.int (Int32.ofNat s)), .val (.int (Int32.ofNat (s + 3))), .val (.int np), .val (.int (Int32.ofNat p)), .val (.int (Int32.ofNat (p + m))), .val (.ref a1), .val (.ref a2), .val (.ref r)]) (S' := [.int 4, .int (Int32.ofNat p), .ref a1, .ref r]) rfl ?_
  refine wp_invokestatic C (M0 hw) d0_473 (M33 hw) (w150 hw) (w151 hw) (w5 hw) (by decide) (S' := []) [.ref r, .ref a1, .int (Int32.ofNat p), .int 4] (lenOf pd33 rfl) rfl (L' := [.val (.ref r), .val (.ref a1), .val (.int (Int32.ofNat p)), .val (.int 4)]) rfl rfl (Rm.law (d := 1) (w := 15) hr hx (Nat.le_of_ble_eq_true rfl) (Nat.le_of_ble_eq_true rfl)) ?_
  refine c_same C hw (mc := true) hs (us := [u0, u1, u2, u3, u4, u5, u6, u7, u8, u9, u10, u11, u12, u13, u14, u15]) (p := p) (m := m) (j := 4) (by decide) rfl (by omega) (Meth.caller (M0 hw) d0_473) (Rm.law (d := 5) (w := 68) hr hx (Nat.le_of_ble_eq_true rfl) (Nat.le_of_ble_eq_true rfl)) ⟨v, (List.mem_of_getElem? (i := 0) rfl), (List.mem_of_getElem? (i := 1) rfl)⟩ (List.mem_of_getElem? (i := 4) rfl) ?_
  refine wp_iff C (M0 hw) d0_476 (XT.i0_eq_f (by decide)) ?_
  refine wp_seg C (M0 hw) [(.aload 12, 2), (.aload 10, 2), (.iload 8, 2), (.iconst 5, 1)] (by decide +kernel) (pc' := 486) (L' := [.val (.int f), .val (.int hh), .val (.int qq), .val (.long bits), .second, .val (.int (Int32.ofNat s)), .val (.int (Int32.ofNat (s + 3))), .val (.int np), .val (.int (Int32.ofNat p)), .val (.int (Int32.ofNat (p + m))), .val (.ref a1), .val (.ref a2), .val (.ref r)]) (S' := [.int 5, .int (Int32.ofNat p), .ref a1, .ref r]) rfl ?_
  refine wp_invokestatic C (M0 hw) d0_486 (M33 hw) (w150 hw) (w151 hw) (w5 hw) (by decide) (S' := []) [.ref r, .ref a1, .int (Int32.ofNat p), .int 5] (lenOf pd33 rfl) rfl (L' := [.val (.ref r), .val (.ref a1), .val (.int (Int32.ofNat p)), .val (.int 5)]) rfl rfl (Rm.law (d := 1) (w := 15) hr hx (Nat.le_of_ble_eq_true rfl) (Nat.le_of_ble_eq_true rfl)) ?_
  refine c_same C hw (mc := true) hs (us := [u0, u1, u2, u3, u4, u5, u6, u7, u8, u9, u10, u11, u12, u13, u14, u15]) (p := p) (m := m) (j := 5) (by decide) rfl (by omega) (Meth.caller (M0 hw) d0_486) (Rm.law (d := 5) (w := 68) hr hx (Nat.le_of_ble_eq_true rfl) (Nat.le_of_ble_eq_true rfl)) ⟨v, (List.mem_of_getElem? (i := 0) rfl), (List.mem_of_getElem? (i := 1) rfl)⟩ (List.mem_of_getElem? (i := 4) rfl) ?_
  refine wp_iff C (M0 hw) d0_489 (XT.i0_eq_f (by decide)) ?_
  refine wp_seg C (M0 hw) [(.aload 12, 2), (.aload 10, 2), (.iload 8, 2), (.bipush 6, 2)] (by decide +kernel) (pc' := 500) (L' := [.val (.int f), .val (.int hh), .val (.int qq), .val (.long bits), .second, .val (.int (Int32.ofNat s)), .val (.int (Int32.ofNat (s + 3))), .val (.int np), .val (.int (Int32.ofNat p)), .val (.int (Int32.ofNat (p + m))), .val (.ref a1), .val (.ref a2), .val (.ref r)]) (S' := [.int 6, .int (Int32.ofNat p), .ref a1, .ref r]) rfl ?_
  refine wp_invokestatic C (M0 hw) d0_500 (M33 hw) (w150 hw) (w151 hw) (w5 hw) (by decide) (S' := []) [.ref r, .ref a1, .int (Int32.ofNat p), .int 6] (lenOf pd33 rfl) rfl (L' := [.val (.ref r), .val (.ref a1), .val (.int (Int32.ofNat p)), .val (.int 6)]) rfl rfl (Rm.law (d := 1) (w := 15) hr hx (Nat.le_of_ble_eq_true rfl) (Nat.le_of_ble_eq_true rfl)) ?_
  refine c_same C hw (mc := true) hs (us := [u0, u1, u2, u3, u4, u5, u6, u7, u8, u9, u10, u11, u12, u13, u14, u15]) (p := p) (m := m) (j := 6) (by decide) rfl (by omega) (Meth.caller (M0 hw) d0_500) (Rm.law (d := 5) (w := 68) hr hx (Nat.le_of_ble_eq_true rfl) (Nat.le_of_ble_eq_true rfl)) ⟨v, (List.mem_of_getElem? (i := 0) rfl), (List.mem_of_getElem? (i := 1) rfl)⟩ (List.mem_of_getElem? (i := 4) rfl) ?_
  refine wp_iff C (M0 hw) d0_503 (XT.i0_eq_f (by decide)) ?_
  refine wp_seg C (M0 hw) [(.aload 12, 2), (.aload 10, 2), (.iload 8, 2), (.bipush 7, 2)] (by decide +kernel) (pc' := 514) (L' := [.val (.int f), .val (.int hh), .val (.int qq), .val (.long bits), .second, .val (.int (Int32.ofNat s)), .val (.int (Int32.ofNat (s + 3))), .val (.int np), .val (.int (Int32.ofNat p)), .val (.int (Int32.ofNat (p + m))), .val (.ref a1), .val (.ref a2), .val (.ref r)]) (S' := [.int 7, .int (Int32.ofNat p), .ref a1, .ref r]) rfl ?_
  refine wp_invokestatic C (M0 hw) d0_514 (M33 hw) (w150 hw) (w151 hw) (w5 hw) (by decide) (S' := []) [.ref r, .ref a1, .int (Int32.ofNat p), .int 7] (lenOf pd33 rfl) rfl (L' := [.val (.ref r), .val (.ref a1), .val (.int (Int32.ofNat p)), .val (.int 7)]) rfl rfl (Rm.law (d := 1) (w := 15) hr hx (Nat.le_of_ble_eq_true rfl) (Nat.le_of_ble_eq_true rfl)) ?_
  refine c_same C hw (mc := true) hs (us := [u0, u1, u2, u3, u4, u5, u6, u7, u8, u9, u10, u11, u12, u13, u14, u15]) (p := p) (m := m) (j := 7) (by decide) rfl (by omega) (Meth.caller (M0 hw) d0_514) (Rm.law (d := 5) (w := 68) hr hx (Nat.le_of_ble_eq_true rfl) (Nat.le_of_ble_eq_true rfl)) ⟨v, (List.mem_of_getElem? (i := 0) rfl), (List.mem_of_getElem? (i := 1) rfl)⟩ (List.mem_of_getElem? (i := 4) rfl) ?_
  refine wp_iff C (M0 hw) d0_517 (XT.i0_eq_f (by decide)) ?_
  refine wp_seg C (M0 hw) [(.iconst 1, 1), (.goto 4, 3)] (by decide +kernel) (pc' := 525) (L' := [.val (.int f), .val (.int hh), .val (.int qq), .val (.long bits), .second, .val (.int (Int32.ofNat s)), .val (.int (Int32.ofNat (s + 3))), .val (.int np), .val (.int (Int32.ofNat p)), .val (.int (Int32.ofNat (p + m))), .val (.ref a1), .val (.ref a2), .val (.ref r)]) (S' := [.int 1]) rfl ?_
  exact wp_end C (M0 hw) d0_525
set_option maxRecDepth 65536 in
set_option maxHeartbeats 4000000 in
theorem law_wp {κ : Cx} (C : Ok κ) (hw : Ws κ) (hr : kR κ = room_1) (hx : kx κ = maxLocals) (hst : kS κ = false) (hE : kE κ = consts_1) (hPP : kP κ = consts_1) (hs : StrS κ) (wS : StrW κ) (f : Int32) (hh : Int32) (qq : Int32) (bits : Int64) :
    WP κ y0 0 [.val (.int f), .val (.int hh), .val (.int qq), .val (.long bits), .second, .unset, .unset, .unset, .unset, .unset, .unset, .unset, .unset] [] [] [] 12 600 := by
  refine wp_seg C (M0 hw) [(.iload_n 0, 1), (.iconst 1, 1), (.iand, 1)] (by decide +kernel) (pc' := 3) (L' := [.val (.int f), .val (.int hh), .val (.int qq), .val (.long bits), .second, .unset, .unset, .unset, .unset, .unset, .unset, .unset, .unset]) (S' := [.int (f &&& (1 : Int32))]) rfl ?_
  by_cases c0 : (f &&& (1 : Int32)) = 0
  · refine wp_ift C (M0 hw) d0_3 (XT.i0_eq_t c0) (pc' := 10) (by decide) ?_
    refine wp_seg C (M0 hw) [(.iconst 4, 1), (.istore 5, 2), (.iload 5, 2), (.iconst 3, 1), (.iadd, 1), (.istore 6, 2), (.iload_n 0, 1), (.bipush 6, 2), (.iand, 1), (.bipush 6, 2)] (by decide +kernel) (pc' := 25) (L' := [.val (.int f), .val (.int hh), .val (.int qq), .val (.long bits), .second, .val (.int 4), .val (.int 7), .unset, .unset, .unset, .unset, .unset, .unset]) (S' := [.int 6, .int (f &&& (6 : Int32))]) rfl ?_
    by_cases c1 : (f &&& (6 : Int32)) = (6 : Int32)
    · refine wp_icf C (M0 hw) d0_25 (XT.ii_ne_f c1) ?_
      refine wp_seg C (M0 hw) [(.iconst 1, 1), (.goto 4, 3), (.istore 7, 2), (.iload 7, 2)] (by decide +kernel) (pc' := 37) (L' := [.val (.int f), .val (.int hh), .val (.int qq), .val (.long bits), .second, .val (.int 4), .val (.int 7), .val (.int 1), .unset, .unset, .unset, .unset, .unset]) (S' := [.int 1]) rfl ?_
      refine wp_iff C (M0 hw) d0_37 (XT.i0_eq_f (by decide)) ?_
      refine wp_seg C (M0 hw) [(.bipush 16, 2), (.goto 14, 3), (.istore 8, 2), (.iload 7, 2)] (by decide +kernel) (pc' := 60) (L' := [.val (.int f), .val (.int hh), .val (.int qq), .val (.long bits), .second, .val (.int 4), .val (.int 7), .val (.int 1), .val (.int 16), .unset, .unset, .unset, .unset]) (S' := [.int 1]) rfl ?_
      refine wp_iff C (M0 hw) d0_60 (XT.i0_eq_f (by decide)) ?_
      refine wp_seg C (M0 hw) [(.bipush 16, 2), (.goto 18, 3), (.istore 9, 2)] (by decide +kernel) (pc' := 85) (L' := [.val (.int f), .val (.int hh), .val (.int qq), .val (.long bits), .second, .val (.int 4), .val (.int 7), .val (.int 1), .val (.int 16), .val (.int 16), .unset, .unset, .unset]) (S' := []) rfl ?_
      exact law85 C hw hr hx hst hE hPP hs wS (s := 4) (p := 16) (m := 0) (by decide) (by decide) (by decide) (by decide) (by decide)
    · refine wp_ict C (M0 hw) d0_25 (XT.ii_ne_t c1) (pc' := 32) (by decide) ?_
      refine wp_seg C (M0 hw) [(.iconst 0, 1), (.istore 7, 2), (.iload 7, 2)] (by decide +kernel) (pc' := 37) (L' := [.val (.int f), .val (.int hh), .val (.int qq), .val (.long bits), .second, .val (.int 4), .val (.int 7), .val (.int 0), .unset, .unset, .unset, .unset, .unset]) (S' := [.int 0]) rfl ?_
      refine wp_ift C (M0 hw) d0_37 (XT.i0_eq_t (by decide)) (pc' := 45) (by decide) ?_
      refine wp_seg C (M0 hw) [(.iload 6, 2), (.iconst 1, 1), (.iadd, 1), (.iload_n 1, 1)] (by decide +kernel) (pc' := 50) (L' := [.val (.int f), .val (.int hh), .val (.int qq), .val (.long bits), .second, .val (.int 4), .val (.int 7), .val (.int 0), .unset, .unset, .unset, .unset, .unset]) (S' := [.int hh, .int 8]) rfl ?_
      refine wp_ldcI C (M0 hw) d0_50 (w1 hw) ?_
      refine wp_seg C (M0 hw) [(.iand, 1), (.iconst 4, 1)] (by decide +kernel) (pc' := 54) (L' := [.val (.int f), .val (.int hh), .val (.int qq), .val (.long bits), .second, .val (.int 4), .val (.int 7), .val (.int 0), .unset, .unset, .unset, .unset, .unset]) (S' := [.int 4, .int (hh &&& (2147483647 : Int32)), .int 8]) rfl ?_
      obtain ⟨j, hj, ej⟩ := rem_31 hh (m := 4) (by decide) (by decide)
      refine wp_irem C (M0 hw) d0_54 (by decide) ?_
      rw [show ((hh &&& (2147483647 : Int32)) % (4 : Int32)) = Int32.ofNat j from ej]
      refine wp_seg C (M0 hw) [(.iadd, 1)] (by decide +kernel) (pc' := 56) (L' := [.val (.int f), .val (.int hh), .val (.int qq), .val (.long bits), .second, .val (.int 4), .val (.int 7), .val (.int 0), .unset, .unset, .unset, .unset, .unset]) (S' := [.int ((8 : Int32) + (Int32.ofNat j))]) rfl ?_
      rw [show (8 : Int32) + Int32.ofNat j = Int32.ofNat (8 + j) from add32n 8 j]
      refine wp_seg C (M0 hw) [(.istore 8, 2), (.iload 7, 2)] (by decide +kernel) (pc' := 60) (L' := [.val (.int f), .val (.int hh), .val (.int qq), .val (.long bits), .second, .val (.int 4), .val (.int 7), .val (.int 0), .val (.int (Int32.ofNat (8 + j))), .unset, .unset, .unset, .unset]) (S' := [.int 0]) rfl ?_
      refine wp_ift C (M0 hw) d0_60 (XT.i0_eq_t (by decide)) (pc' := 68) (by decide) ?_
      refine wp_seg C (M0 hw) [(.iload 8, 2), (.iconst 1, 1), (.iadd, 1), (.iload_n 2, 1)] (by decide +kernel) (pc' := 73) (L' := [.val (.int f), .val (.int hh), .val (.int qq), .val (.long bits), .second, .val (.int 4), .val (.int 7), .val (.int 0), .val (.int (Int32.ofNat (8 + j))), .unset, .unset, .unset, .unset]) (S' := [.int qq, .int ((Int32.ofNat (8 + j)) + (1 : Int32))]) rfl ?_
      refine wp_ldcI C (M0 hw) d0_73 (w1 hw) ?_
      refine wp_seg C (M0 hw) [(.iand, 1), (.bipush 16, 2), (.iload 8, 2), (.isub, 1)] (by decide +kernel) (pc' := 81) (L' := [.val (.int f), .val (.int hh), .val (.int qq), .val (.long bits), .second, .val (.int 4), .val (.int 7), .val (.int 0), .val (.int (Int32.ofNat (8 + j))), .unset, .unset, .unset, .unset]) (S' := [.int ((16 : Int32) - (Int32.ofNat (8 + j))), .int (qq &&& (2147483647 : Int32)), .int ((Int32.ofNat (8 + j)) + (1 : Int32))]) rfl ?_
      rw [show (16 : Int32) - Int32.ofNat (8 + j) = Int32.ofNat (16 - (8 + j)) from sub32n (a := 16) (by omega)]
      obtain ⟨j2, hj2, ej2⟩ := rem_31 qq (m := 16 - (8 + j)) (by omega) (by omega)
      refine wp_irem C (M0 hw) d0_81 (fun q => by have := (eq32 (b := 0) (by omega) (by decide)).mp q; omega) ?_
      rw [show ((qq &&& (2147483647 : Int32)) % (Int32.ofNat (16 - (8 + j)))) = Int32.ofNat j2 from ej2]
      refine wp_seg C (M0 hw) [(.iadd, 1)] (by decide +kernel) (pc' := 83) (L' := [.val (.int f), .val (.int hh), .val (.int qq), .val (.long bits), .second, .val (.int 4), .val (.int 7), .val (.int 0), .val (.int (Int32.ofNat (8 + j))), .unset, .unset, .unset, .unset]) (S' := [.int (((Int32.ofNat (8 + j)) + (1 : Int32)) + (Int32.ofNat j2))]) rfl ?_
      rw [succ32, add32n, show 8 + j + 1 + j2 = 8 + j + (1 + j2) from by omega]
      refine wp_seg C (M0 hw) [(.istore 9, 2)] (by decide +kernel) (pc' := 85) (L' := [.val (.int f), .val (.int hh), .val (.int qq), .val (.long bits), .second, .val (.int 4), .val (.int 7), .val (.int 0), .val (.int (Int32.ofNat (8 + j))), .val (.int (Int32.ofNat (8 + j + (1 + j2)))), .unset, .unset, .unset]) (S' := []) rfl ?_
      exact law85 C hw hr hx hst hE hPP hs wS (s := 4) (p := 8 + j) (m := 1 + j2) (by decide) (by decide) (by omega) (by omega) (by omega)
  · refine wp_iff C (M0 hw) d0_3 (XT.i0_eq_f c0) ?_
    refine wp_seg C (M0 hw) [(.iconst 5, 1), (.goto 4, 3), (.istore 5, 2), (.iload 5, 2), (.iconst 3, 1), (.iadd, 1), (.istore 6, 2), (.iload_n 0, 1), (.bipush 6, 2), (.iand, 1), (.bipush 6, 2)] (by decide +kernel) (pc' := 25) (L' := [.val (.int f), .val (.int hh), .val (.int qq), .val (.long bits), .second, .val (.int 5), .val (.int 8), .unset, .unset, .unset, .unset, .unset, .unset]) (S' := [.int 6, .int (f &&& (6 : Int32))]) rfl ?_
    by_cases c1 : (f &&& (6 : Int32)) = (6 : Int32)
    · refine wp_icf C (M0 hw) d0_25 (XT.ii_ne_f c1) ?_
      refine wp_seg C (M0 hw) [(.iconst 1, 1), (.goto 4, 3), (.istore 7, 2), (.iload 7, 2)] (by decide +kernel) (pc' := 37) (L' := [.val (.int f), .val (.int hh), .val (.int qq), .val (.long bits), .second, .val (.int 5), .val (.int 8), .val (.int 1), .unset, .unset, .unset, .unset, .unset]) (S' := [.int 1]) rfl ?_
      refine wp_iff C (M0 hw) d0_37 (XT.i0_eq_f (by decide)) ?_
      refine wp_seg C (M0 hw) [(.bipush 16, 2), (.goto 14, 3), (.istore 8, 2), (.iload 7, 2)] (by decide +kernel) (pc' := 60) (L' := [.val (.int f), .val (.int hh), .val (.int qq), .val (.long bits), .second, .val (.int 5), .val (.int 8), .val (.int 1), .val (.int 16), .unset, .unset, .unset, .unset]) (S' := [.int 1]) rfl ?_
      refine wp_iff C (M0 hw) d0_60 (XT.i0_eq_f (by decide)) ?_
      refine wp_seg C (M0 hw) [(.bipush 16, 2), (.goto 18, 3), (.istore 9, 2)] (by decide +kernel) (pc' := 85) (L' := [.val (.int f), .val (.int hh), .val (.int qq), .val (.long bits), .second, .val (.int 5), .val (.int 8), .val (.int 1), .val (.int 16), .val (.int 16), .unset, .unset, .unset]) (S' := []) rfl ?_
      exact law85 C hw hr hx hst hE hPP hs wS (s := 5) (p := 16) (m := 0) (by decide) (by decide) (by decide) (by decide) (by decide)
    · refine wp_ict C (M0 hw) d0_25 (XT.ii_ne_t c1) (pc' := 32) (by decide) ?_
      refine wp_seg C (M0 hw) [(.iconst 0, 1), (.istore 7, 2), (.iload 7, 2)] (by decide +kernel) (pc' := 37) (L' := [.val (.int f), .val (.int hh), .val (.int qq), .val (.long bits), .second, .val (.int 5), .val (.int 8), .val (.int 0), .unset, .unset, .unset, .unset, .unset]) (S' := [.int 0]) rfl ?_
      refine wp_ift C (M0 hw) d0_37 (XT.i0_eq_t (by decide)) (pc' := 45) (by decide) ?_
      refine wp_seg C (M0 hw) [(.iload 6, 2), (.iconst 1, 1), (.iadd, 1), (.iload_n 1, 1)] (by decide +kernel) (pc' := 50) (L' := [.val (.int f), .val (.int hh), .val (.int qq), .val (.long bits), .second, .val (.int 5), .val (.int 8), .val (.int 0), .unset, .unset, .unset, .unset, .unset]) (S' := [.int hh, .int 9]) rfl ?_
      refine wp_ldcI C (M0 hw) d0_50 (w1 hw) ?_
      refine wp_seg C (M0 hw) [(.iand, 1), (.iconst 4, 1)] (by decide +kernel) (pc' := 54) (L' := [.val (.int f), .val (.int hh), .val (.int qq), .val (.long bits), .second, .val (.int 5), .val (.int 8), .val (.int 0), .unset, .unset, .unset, .unset, .unset]) (S' := [.int 4, .int (hh &&& (2147483647 : Int32)), .int 9]) rfl ?_
      obtain ⟨j, hj, ej⟩ := rem_31 hh (m := 4) (by decide) (by decide)
      refine wp_irem C (M0 hw) d0_54 (by decide) ?_
      rw [show ((hh &&& (2147483647 : Int32)) % (4 : Int32)) = Int32.ofNat j from ej]
      refine wp_seg C (M0 hw) [(.iadd, 1)] (by decide +kernel) (pc' := 56) (L' := [.val (.int f), .val (.int hh), .val (.int qq), .val (.long bits), .second, .val (.int 5), .val (.int 8), .val (.int 0), .unset, .unset, .unset, .unset, .unset]) (S' := [.int ((9 : Int32) + (Int32.ofNat j))]) rfl ?_
      rw [show (9 : Int32) + Int32.ofNat j = Int32.ofNat (9 + j) from add32n 9 j]
      refine wp_seg C (M0 hw) [(.istore 8, 2), (.iload 7, 2)] (by decide +kernel) (pc' := 60) (L' := [.val (.int f), .val (.int hh), .val (.int qq), .val (.long bits), .second, .val (.int 5), .val (.int 8), .val (.int 0), .val (.int (Int32.ofNat (9 + j))), .unset, .unset, .unset, .unset]) (S' := [.int 0]) rfl ?_
      refine wp_ift C (M0 hw) d0_60 (XT.i0_eq_t (by decide)) (pc' := 68) (by decide) ?_
      refine wp_seg C (M0 hw) [(.iload 8, 2), (.iconst 1, 1), (.iadd, 1), (.iload_n 2, 1)] (by decide +kernel) (pc' := 73) (L' := [.val (.int f), .val (.int hh), .val (.int qq), .val (.long bits), .second, .val (.int 5), .val (.int 8), .val (.int 0), .val (.int (Int32.ofNat (9 + j))), .unset, .unset, .unset, .unset]) (S' := [.int qq, .int ((Int32.ofNat (9 + j)) + (1 : Int32))]) rfl ?_
      refine wp_ldcI C (M0 hw) d0_73 (w1 hw) ?_
      refine wp_seg C (M0 hw) [(.iand, 1), (.bipush 16, 2), (.iload 8, 2), (.isub, 1)] (by decide +kernel) (pc' := 81) (L' := [.val (.int f), .val (.int hh), .val (.int qq), .val (.long bits), .second, .val (.int 5), .val (.int 8), .val (.int 0), .val (.int (Int32.ofNat (9 + j))), .unset, .unset, .unset, .unset]) (S' := [.int ((16 : Int32) - (Int32.ofNat (9 + j))), .int (qq &&& (2147483647 : Int32)), .int ((Int32.ofNat (9 + j)) + (1 : Int32))]) rfl ?_
      rw [show (16 : Int32) - Int32.ofNat (9 + j) = Int32.ofNat (16 - (9 + j)) from sub32n (a := 16) (by omega)]
      obtain ⟨j2, hj2, ej2⟩ := rem_31 qq (m := 16 - (9 + j)) (by omega) (by omega)
      refine wp_irem C (M0 hw) d0_81 (fun q => by have := (eq32 (b := 0) (by omega) (by decide)).mp q; omega) ?_
      rw [show ((qq &&& (2147483647 : Int32)) % (Int32.ofNat (16 - (9 + j)))) = Int32.ofNat j2 from ej2]
      refine wp_seg C (M0 hw) [(.iadd, 1)] (by decide +kernel) (pc' := 83) (L' := [.val (.int f), .val (.int hh), .val (.int qq), .val (.long bits), .second, .val (.int 5), .val (.int 8), .val (.int 0), .val (.int (Int32.ofNat (9 + j))), .unset, .unset, .unset, .unset]) (S' := [.int (((Int32.ofNat (9 + j)) + (1 : Int32)) + (Int32.ofNat j2))]) rfl ?_
      rw [succ32, add32n, show 9 + j + 1 + j2 = 9 + j + (1 + j2) from by omega]
      refine wp_seg C (M0 hw) [(.istore 9, 2)] (by decide +kernel) (pc' := 85) (L' := [.val (.int f), .val (.int hh), .val (.int qq), .val (.long bits), .second, .val (.int 5), .val (.int 8), .val (.int 0), .val (.int (Int32.ofNat (9 + j))), .val (.int (Int32.ofNat (9 + j + (1 + j2)))), .unset, .unset, .unset]) (S' := []) rfl ?_
      exact law85 C hw hr hx hst hE hPP hs wS (s := 5) (p := 9 + j) (m := 1 + j2) (by decide) (by decide) (by omega) (by omega) (by omega)
def Pst (av : Array Value) (U : State) : Prop := (∃ (f : Int32) (hh : Int32) (qq : Int32) (bits : Int64), av = #[.int f, .int hh, .int qq, .long bits]) ∧ ((∃ cs : Int32, ¬ cs = 0 ∧ Sta U U.heap "java/lang/String" "COMPACT_STRINGS" "Z" (.int cs)) ∧
  ∃ v : Value, v.isRef = true ∧ Sta U U.heap "jdk/internal/util/Preconditions" "SIOOBE_FORMATTER" "Ljava/util/function/BiFunction;" v) ∧ EW U av consts_1 ∧ CHv U consts_1 U.vm U.heap ∧ (∀ d ∈ jdkStatics_1, d.before av U = true) ∧ narrow_1.before av U = true
theorem met_1 (l : Launch) : MetFree l x (head1 (Jvm.Cond.code x code maxLocals ret :: tables_1) room_1) Pst (fun _ _ _ _ _ => True) (fun _ U o U' => Left false room_1 U o U') :=
  start_wp (EL := consts_1) (PL := consts_1) (strict := false) (by decide +kernel) Pst (fun _ _ h => h.2.2.1) (fun _ _ h => h.2.2.2.1) (hPc := Nat.le_of_ble_eq_true rfl) (hPs := Nat.le_of_ble_eq_true rfl) fun κ C hr hE hst hx hPP hw hP => by
    obtain ⟨⟨f, hh, qq, bits, ha⟩, hs, -, -, hj, hnw⟩ := hP
    refine ⟨[.val (.int f), .val (.int hh), .val (.int qq), .val (.long bits), .second, .unset, .unset, .unset, .unset, .unset, .unset, .unset, .unset], ?_, rfl, law_wp C hw hr hx hst hE hPP hs (str_W hw) f hh qq bits⟩
    rw [ha]; rfl
set_option maxRecDepth 65536 in
set_option maxHeartbeats 40000000 in
theorem comes_1 {Post : Tables → Env → Array Value → State → Outcome → State → Prop} (hpost : ∀ tb e args s v u, (limb_1_1.after args s (.returned v) u = true ∧ limb_1_2.after args s (.returned v) u = true ∧ True) → Jvm.D.FramedW s (.returned v) u (Jvm.fieldLocs frame_1_writes args s ++ Jvm.arrayLocs frame_1_arrays args s ++ Jvm.staticLocs frame_1_statics s) 32 6336 → Post tb e args s (.returned v) u) :
    Jvm.D.ArmFor flags0 classFile x code maxLocals ret World_1 tables_1 room_1 Calls_1 rest_1 Pre_1 Post := by
  intro l hfl _ _ p e ha hc hk s m args below hf hA hF happ hP
  obtain ⟨hcalls, hrest, hpre⟩ := hP
  obtain ⟨-, -, -, hnamed, -, -, -, hat⟩ := (Spec.applies_iff hf).mp happ
  obtain ⟨hg, hn⟩ := and_e (Cond.before_iff.mp (show (Jvm.Cond.and given_1 narrow_1).before args s = true from hpre))
  obtain ⟨g0, h1⟩ := and_e hg
  obtain ⟨g1, h2⟩ := and_e h1
  obtain ⟨g2, h3⟩ := and_e h2
  obtain ⟨g3, h4⟩ := and_e h3
  obtain ⟨w0_, w1_, w2_, w3_, rfl⟩ : ∃ w0_ w1_ w2_ w3_ : Value, args = #[w0_, w1_, w2_, w3_] := by
    have hs : args.size = 4 := by simpa [Cond.value, given_1] using g0
    obtain ⟨L⟩ := args
    match L, hs with
    | [w0_, w1_, w2_, w3_], _ => exact ⟨w0_, w1_, w2_, w3_, rfl⟩
  obtain ⟨i0_, e0_⟩ := is_v g1
  obtain rfl : w0_ = (.int i0_) := Option.some.inj e0_
  obtain ⟨i1_, e1_⟩ := is_v g2
  obtain rfl : w1_ = (.int i1_) := Option.some.inj e1_
  obtain ⟨i2_, e2_⟩ := is_v g3
  obtain rfl : w2_ = (.int i2_) := Option.some.inj e2_
  obtain ⟨i3_, e3_⟩ := isL_v h4
  obtain rfl : w3_ = (.long i3_) := Option.some.inj e3_
  have hw := fun d (hd : d ∈ tables_1) => atoms_spec (ws := Jvm.Cond.code x code maxLocals ret :: tables_1) hat d (List.mem_cons_of_mem _ hd)
  obtain ⟨hsets, hown0⟩ := atoms_of _ (rest_1_c_eq ▸ (show rest_1_c.before _ s = true from hrest))
  have n5 := not_v (Cond.before_iff.mp (hsets _ (List.mem_of_getElem? (i := 2) rfl)))
  obtain ⟨i11, e10⟩ := is_v (Cond.before_iff.mp (hsets _ (List.mem_of_getElem? (i := 1) rfl)))
  have S12 : Sta s s.heap "java/lang/String" "COMPACT_STRINGS" "Z" (.int i11) := Sta.start e10 (Or.inl (hsets _ (List.mem_of_getElem? (i := 0) rfl)))
  obtain ⟨v13, e14, r15⟩ := isR_v (Cond.before_iff.mp (hsets _ (List.mem_of_getElem? (i := 8) rfl)))
  have S16 : Sta s s.heap "jdk/internal/util/Preconditions" "SIOOBE_FORMATTER" "Ljava/util/function/BiFunction;" v13 := Sta.start e14 (Or.inl (hsets _ (List.mem_of_getElem? (i := 7) rfl)))
  have c17 : ¬ (i11 = (0 : Int32)) := gotF (Cond.eq_ints e10 (Term.int_eval (0))) n5
  have ew : EW s #[.int i0_, .int i1_, .int i2_, .long i3_] consts_1 := EW.cons (text := "://") (hw _ (List.mem_of_getElem? (i := 71) rfl)) (by decide +kernel) (EW.cons (text := "https") (hw _ (List.mem_of_getElem? (i := 7) rfl)) (by decide +kernel) (EW.cons (text := "aZ0.:-%9") (hw _ (List.mem_of_getElem? (i := 40) rfl)) (by decide +kernel) (EW.cons (text := "a/.%:@B~") (hw _ (List.mem_of_getElem? (i := 41) rfl)) (by decide +kernel) (EW.cons (text := "a/?=&:%B") (hw _ (List.mem_of_getElem? (i := 42) rfl)) (by decide +kernel) (EW.cons (text := "") (hw _ (List.mem_of_getElem? (i := 152) rfl)) (by decide +kernel) (EW.nil))))))
  have ch : CHv s consts_1 s.vm s.heap := CHv.start ew (fun p hp => hcalls.1 p hp) (hsets _ (List.mem_of_getElem? (i := 2) rfl)) (hw _ (List.mem_of_getElem? (i := 10) rfl)) (hw _ (List.mem_of_getElem? (i := 9) rfl))
  obtain ⟨n, o, h1, h2, h3, rfl, q1, q2, q3⟩ := met_1 l p e ha hc hk s m _ below hf ((Spec.applies_iff_loose hf).mp happ).1 ⟨⟨i0_, i1_, i2_, i3_, rfl⟩, ⟨⟨i11, c17, S12⟩, v13, r15, S16⟩, ew, ch, hsets, Cond.before_iff.mpr hn⟩ trivial
  refine ⟨n, _, h1, h2, h3, hpost _ _ _ _ _ _ ⟨Cond.after_iff.mpr rfl, Cond.after_iff.mpr (eq_i res_at (Term.int_eval (1)) rfl), trivial⟩ ⟨⟨_, rfl⟩, q1.1, q1.2, q3⟩⟩
theorem main_1_1 : Claimed_1_1 := comes_1 fun _ _ _ _ _ _ h hF => ⟨h.1, hF⟩
theorem main_1_2 : Claimed_1_2 := comes_1 fun _ _ _ _ _ _ h hF => ⟨h.2.1, hF⟩
end Jvm.Pilot.@@N@@
namespace Jvm.Pilot.@@N@@
open Jvm Jvm.ClassFile Sem Op Lib Jvm.Free Jvm.Stand Jvm.Pilot.@@N@@.Jvm.D
/-! MADE BY PROGRAM (witnessworld.py) out of the Statement's table words and the real class files: 23 classes; the members and pool entries that the words name. The judged class is class 1, her method 3. -/
namespace start1
open Jvm.ClassFile
def u (s : String) : CpInfo := .utf8 (stringToUtf16 s)
/-- a pool by its gaps: so many unusable entries, then the entry; so many at the end -/
def gap : Nat → List CpInfo → List CpInfo
  | 0, r => r
  | n + 1, r => .unusable :: gap n r
def poolList (es : List (Nat × CpInfo)) (last : Nat) : List CpInfo := es.foldr (fun e r => gap e.1 (e.2 :: r)) (gap last [])
def pool (es : List (Nat × CpInfo)) (last : Nat) : Array CpInfo := ⟨poolList es last⟩
def fileOf (pool : Array CpInfo) (this : Nat) (attrs : Array Attribute := #[]) (ms : Array MethodInfo := #[]) (fl : Nat := 33) (sup : Nat := 0) (ifs : Array Nat := #[]) (fds : Array FieldInfo := #[]) : ClassFile where
  minorVersion := 0
  majorVersion := 65
  constantPool := pool
  accessFlags := fl
  thisClass := this
  superClass := sup
  interfaces := ifs
  fields := fds
  methods := ms
  attributes := attrs
def plain (name : String) (sup : Option ClassId) : Class where
  name := name
  kind := .ordinary
  loader := none
  accessFlags := 33
  super := sup
  interfaces := #[]
  cf := none
  fields := #[]
  methods := #[]
  instanceTypes := #[]
  staticTypes := #[]
  resolved := #[]
  callSites := []
  init := .initialized
  statics := none
  mirror := none

def pool0 : Array CpInfo := pool [(5, u "<init>"), (0, u "()V"), (1, .class_ 10), (1, u "java/lang/Object")] 113

def k0c0 : Code := { maxStack := 0, maxLocals := 1, code := object_method_1_code, exceptionTable := #[], attributes := #[] }
def k0m0 : Method := { name := "<init>", desc := "()V", sig := { parameters := [], returnType := none }, accessFlags := 1, code := some k0c0 }
/-- java/lang/Object -/
def k0 : Class := { plain "java/lang/Object" none with
  accessFlags := 33
  interfaces := #[]
  cf := some (fileOf pool0 8 #[] #[{ accessFlags := 1, nameIndex := 5, descriptorIndex := 6, attributes := #[] }] 33 0 #[] #[])
  fields := #[]
  methods := #[k0m0]
  instanceTypes := #[]
  staticTypes := #[]
  resolved := Array.replicate 124 none
  statics := none }

def pool1 : Array CpInfo := pool [(2, .class_ 4), (1, u "java/lang/Object"), (0, u "<init>"), (0, u "()V"), (0, .long 7), (1, .string 10), (0, u "https"), (0, .methodref 12 13), (0, .class_ 14), (0, .nameAndType 15 16), (0, u "java/lang/String"), (0, u "charAt"), (0, u "(I)C"), (0, .string 18), (0, u "aZ0.:-%9"), (0, .string 20), (0, u "a/.%:@B~"), (0, .string 22), (0, u "a/?=&:%B"), (0, .methodref 12 24), (0, .nameAndType 25 26), (0, u "length"), (0, u "()I"), (0, .integer 2147483647), (0, .methodref 29 30), (0, .class_ 31), (0, .nameAndType 32 33), (0, u "com/example/lean_crawler/leancrawler/url/UrlNormalizerPathPinLaw"), (0, u "at"), (0, u "(IIIIIJ)C"), (0, .methodref 12 35), (0, .nameAndType 5 36), (0, u "([C)V"), (0, .methodref 38 39), (0, .class_ 40), (0, .nameAndType 41 42), (0, u "com/example/lean_crawler/leancrawler/url/UrlNormalizer"), (0, u "path"), (0, u "(Ljava/lang/String;)Ljava/lang/String;"), (0, .methodref 29 44), (0, .nameAndType 45 46), (0, u "same"), (0, u "(Ljava/lang/String;[CII)Z"), (3, u "law"), (0, u "(IIIJ)Z")] 4

def k1m0 : Method := { name := "<init>", desc := "()V", sig := { parameters := [], returnType := none }, accessFlags := 1, code := none }
def k1c1 : Code := { maxStack := 4, maxLocals := 8, code := method_2_code, exceptionTable := #[], attributes := #[] }
def k1m1 : Method := { name := "at", desc := "(IIIIIJ)C", sig := { parameters := [.int, .int, .int, .int, .int, .long], returnType := some .char }, accessFlags := 10, code := some k1c1 }
def k1c2 : Code := { maxStack := 4, maxLocals := 4, code := method_3_code, exceptionTable := #[], attributes := #[] }
def k1m2 : Method := { name := "same", desc := "(Ljava/lang/String;[CII)Z", sig := { parameters := [(.object "java/lang/String"), (.array .char), .int, .int], returnType := some .boolean }, accessFlags := 10, code := some k1c2 }
def k1c3 : Code := { maxStack := 9, maxLocals := 13, code := code, exceptionTable := #[], attributes := #[] }
def k1m3 : Method := { name := "law", desc := "(IIIJ)Z", sig := { parameters := [.int, .int, .int, .long], returnType := some .boolean }, accessFlags := 9, code := some k1c3 }
/-- com/example/lean_crawler/leancrawler/url/UrlNormalizerPathPinLaw -/
def k1 : Class := { plain "com/example/lean_crawler/leancrawler/url/UrlNormalizerPathPinLaw" (some 0) with
  accessFlags := 49
  interfaces := #[]
  cf := some (fileOf pool1 29 #[] #[{ accessFlags := 1, nameIndex := 5, descriptorIndex := 6, attributes := #[] }, { accessFlags := 10, nameIndex := 32, descriptorIndex := 33, attributes := #[] }, { accessFlags := 10, nameIndex := 45, descriptorIndex := 46, attributes := #[] }, { accessFlags := 9, nameIndex := 50, descriptorIndex := 51, attributes := #[] }] 49 2 #[] #[])
  fields := #[]
  methods := #[k1m0, k1m1, k1m2, k1m3]
  instanceTypes := #[]
  staticTypes := #[]
  resolved := Array.replicate 56 none
  statics := none }

def pool2 : Array CpInfo := pool [(1, .class_ 2), (0, u "java/io/Serializable"), (0, .class_ 4), (0, u "java/lang/Object")] 2

/-- java/io/Serializable -/
def k2 : Class := { plain "java/io/Serializable" (some 0) with
  accessFlags := 1537
  interfaces := #[]
  cf := some (fileOf pool2 1 #[] #[] 1537 3 #[] #[])
  fields := #[]
  methods := #[]
  instanceTypes := #[]
  staticTypes := #[]
  resolved := Array.replicate 7 none
  statics := none }

def pool3 : Array CpInfo := pool [(1, .class_ 2), (0, u "java/lang/Comparable"), (0, .class_ 4), (0, u "java/lang/Object")] 7

/-- java/lang/Comparable -/
def k3 : Class := { plain "java/lang/Comparable" (some 0) with
  accessFlags := 1537
  interfaces := #[]
  cf := some (fileOf pool3 1 #[] #[] 1537 3 #[] #[])
  fields := #[]
  methods := #[]
  instanceTypes := #[]
  staticTypes := #[]
  resolved := Array.replicate 12 none
  statics := none }

def pool4 : Array CpInfo := pool [(2, .class_ 4), (1, u "java/lang/CharSequence"), (42, .class_ 48), (0, u "java/lang/CharSequence$1CodePointIterator"), (10, .class_ 60), (0, u "java/lang/CharSequence$1CharIterator"), (5, .class_ 67), (0, u "java/lang/Object")] 63

/-- java/lang/CharSequence -/
def k4 : Class := { plain "java/lang/CharSequence" (some 0) with
  accessFlags := 1537
  interfaces := #[]
  cf := some (fileOf pool4 2 #[.nestMembers #[47, 59]] #[] 1537 66 #[] #[])
  fields := #[]
  methods := #[]
  instanceTypes := #[]
  staticTypes := #[]
  resolved := Array.replicate 131 none
  statics := none }

def pool5 : Array CpInfo := pool [(1, .class_ 2), (0, u "java/lang/constant/Constable"), (0, .class_ 4), (0, u "java/lang/Object")] 6

/-- java/lang/constant/Constable -/
def k5 : Class := { plain "java/lang/constant/Constable" (some 0) with
  accessFlags := 1537
  interfaces := #[]
  cf := some (fileOf pool5 1 #[] #[] 1537 3 #[] #[])
  fields := #[]
  methods := #[]
  instanceTypes := #[]
  staticTypes := #[]
  resolved := Array.replicate 11 none
  statics := none }

def pool6 : Array CpInfo := pool [(1, .class_ 2), (0, u "java/lang/constant/ConstantDesc"), (0, .class_ 4), (0, u "java/lang/Object")] 32

/-- java/lang/constant/ConstantDesc -/
def k6 : Class := { plain "java/lang/constant/ConstantDesc" (some 0) with
  accessFlags := 1537
  interfaces := #[]
  cf := some (fileOf pool6 1 #[] #[] 1537 3 #[] #[])
  fields := #[]
  methods := #[]
  instanceTypes := #[]
  staticTypes := #[]
  resolved := Array.replicate 37 none
  statics := none }

def pool7 : Array CpInfo := pool [(1, .methodref 2 3), (0, .class_ 4), (0, .nameAndType 5 6), (0, u "java/lang/Object"), (0, u "<init>"), (0, u "()V"), (2, .fieldref 10 11), (0, .class_ 12), (0, .nameAndType 13 14), (0, u "java/lang/String"), (0, u "value"), (0, u "[B"), (0, .fieldref 10 16), (0, .nameAndType 17 18), (0, u "coder"), (0, u "B"), (2, u "hash"), (0, u "I"), (2, u "hashIsZero"), (0, u "Z"), (0, .methodref 10 28), (0, .nameAndType 5 29), (0, u "([CIILjava/lang/Void;)V"), (8, .fieldref 10 39), (0, .nameAndType 40 26), (0, u "COMPACT_STRINGS"), (1, .class_ 44), (1, u "java/lang/StringUTF16"), (0, u "compress"), (1, .methodref 42 48), (0, .nameAndType 49 50), (0, u "coderFromArrayLen"), (0, u "([BI)B"), (56, .class_ 109), (1, u "java/lang/StringLatin1"), (32, u "()Z"), (34, .methodref 42 178), (0, .nameAndType 45 179), (0, u "([CII)[B"), (31, u "([BB)V"), (122, u "()I"), (0, .methodref 10 336), (0, .nameAndType 17 337), (0, u "()B"), (25, u "([BI)C"), (27, u "(II)V"), (35, u "(I)C"), (64, .methodref 10 493), (0, .nameAndType 494 142), (0, u "isLatin1"), (0, .methodref 107 496), (0, .nameAndType 497 363), (0, u "charAt"), (3, u "checkIndex"), (3, .methodref 10 506), (0, .nameAndType 507 334), (0, u "length"), (5, u "checkFromToIndex"), (7, .methodref 10 522), (0, .nameAndType 523 524), (0, u "checkBoundsBeginEnd"), (0, u "(III)V"), (50, .class_ 576), (0, u "java/lang/CharSequence"), (12, u "([B[B)I"), (9, u "CASE_INSENSITIVE_ORDER"), (0, u "Ljava/util/Comparator;"), (34, u "indexOf"), (0, u "(II)I"), (0, .methodref 107 638), (0, .nameAndType 635 639), (0, u "([BIII)I"), (7, .methodref 107 648), (0, .nameAndType 635 589), (34, u "substring"), (0, u "(II)Ljava/lang/String;"), (0, .methodref 107 686), (0, .nameAndType 687 688), (0, u "newString"), (0, u "([BII)Ljava/lang/String;"), (24, u "(Ljava/lang/String;)I"), (296, u "([C)V"), (42, .fieldref 1054 1055), (0, .class_ 1056), (0, .nameAndType 1057 1058), (0, u "jdk/internal/util/Preconditions"), (0, u "SIOOBE_FORMATTER"), (0, u "Ljava/util/function/BiFunction;"), (0, .methodref 1054 1060), (0, .nameAndType 501 1061), (0, u "(IILjava/util/function/BiFunction;)I"), (0, .methodref 1054 1063), (0, .nameAndType 513 1064), (0, u "(IIILjava/util/function/BiFunction;)I"), (36, u "serialPersistentFields"), (0, u "[Ljava/io/ObjectStreamField;"), (0, .class_ 1104), (0, u "java/lang/String$CaseInsensitiveComparator"), (1, .class_ 1107), (0, u "java/io/Serializable"), (0, .class_ 1109), (0, u "java/lang/Comparable"), (0, .class_ 1111), (0, u "java/lang/constant/Constable"), (0, .class_ 1113), (0, u "java/lang/constant/ConstantDesc"), (2, u "serialVersionUID"), (0, u "J"), (3, u "REPL"), (0, u "C"), (2, u "LATIN1"), (1, u "UTF16")] 323

def k7m0 : Method := { name := "<init>", desc := "()V", sig := { parameters := [], returnType := none }, accessFlags := 1, code := none }
def k7c1 : Code := { maxStack := 5, maxLocals := 2, code := jdk_42_method_3_code, exceptionTable := #[], attributes := #[] }
def k7m1 : Method := { name := "<init>", desc := "([C)V", sig := { parameters := [(.array .char)], returnType := none }, accessFlags := 1, code := some k7c1 }
def k7c2 : Code := { maxStack := 2, maxLocals := 1, code := jdk_42_method_54_code, exceptionTable := #[], attributes := #[] }
def k7m2 : Method := { name := "length", desc := "()I", sig := { parameters := [], returnType := some .int }, accessFlags := 1, code := some k7c2 }
def k7c3 : Code := { maxStack := 2, maxLocals := 2, code := jdk_42_method_56_code, exceptionTable := #[], attributes := #[] }
def k7m3 : Method := { name := "charAt", desc := "(I)C", sig := { parameters := [.int], returnType := some .char }, accessFlags := 1, code := some k7c3 }
def k7c4 : Code := { maxStack := 4, maxLocals := 3, code := jdk_42_method_80_code, exceptionTable := #[], attributes := #[] }
def k7m4 : Method := { name := "indexOf", desc := "(II)I", sig := { parameters := [.int, .int], returnType := some .int }, accessFlags := 1, code := some k7c4 }
def k7c5 : Code := { maxStack := 2, maxLocals := 3, code := jdk_42_method_84_code, exceptionTable := #[], attributes := #[] }
def k7m5 : Method := { name := "indexOf", desc := "(Ljava/lang/String;)I", sig := { parameters := [(.object "java/lang/String")], returnType := some .int }, accessFlags := 1, code := some k7c5 }
def k7c6 : Code := { maxStack := 3, maxLocals := 5, code := jdk_42_method_92_code, exceptionTable := #[], attributes := #[] }
def k7m6 : Method := { name := "substring", desc := "(II)Ljava/lang/String;", sig := { parameters := [.int, .int], returnType := some (.object "java/lang/String") }, accessFlags := 1, code := some k7c6 }
def k7c7 : Code := { maxStack := 4, maxLocals := 6, code := jdk_42_method_149_code, exceptionTable := #[], attributes := #[] }
def k7m7 : Method := { name := "<init>", desc := "([CIILjava/lang/Void;)V", sig := { parameters := [(.array .char), .int, .int, (.object "java/lang/Void")], returnType := none }, accessFlags := 2, code := some k7c7 }
def k7c8 : Code := { maxStack := 2, maxLocals := 3, code := jdk_42_method_151_code, exceptionTable := #[], attributes := #[] }
def k7m8 : Method := { name := "<init>", desc := "([BB)V", sig := { parameters := [(.array .byte), .byte], returnType := none }, accessFlags := 0, code := some k7c8 }
def k7c9 : Code := { maxStack := 1, maxLocals := 1, code := jdk_42_method_152_code, exceptionTable := #[], attributes := #[] }
def k7m9 : Method := { name := "coder", desc := "()B", sig := { parameters := [], returnType := some .byte }, accessFlags := 0, code := some k7c9 }
def k7c10 : Code := { maxStack := 1, maxLocals := 1, code := jdk_42_method_154_code, exceptionTable := #[], attributes := #[] }
def k7m10 : Method := { name := "isLatin1", desc := "()Z", sig := { parameters := [], returnType := some .boolean }, accessFlags := 0, code := some k7c10 }
def k7c11 : Code := { maxStack := 3, maxLocals := 2, code := jdk_42_method_155_code, exceptionTable := #[], attributes := #[] }
def k7m11 : Method := { name := "checkIndex", desc := "(II)V", sig := { parameters := [.int, .int], returnType := none }, accessFlags := 8, code := some k7c11 }
def k7c12 : Code := { maxStack := 4, maxLocals := 3, code := jdk_42_method_158_code, exceptionTable := #[], attributes := #[] }
def k7m12 : Method := { name := "checkBoundsBeginEnd", desc := "(III)V", sig := { parameters := [.int, .int, .int], returnType := none }, accessFlags := 8, code := some k7c12 }
/-- java/lang/String -/
def k7 : Class := { plain "java/lang/String" (some 0) with
  accessFlags := 49
  interfaces := #[2, 3, 4, 5, 6]
  cf := some (fileOf pool7 10 #[.nestMembers #[1103]] #[{ accessFlags := 1, nameIndex := 5, descriptorIndex := 6, attributes := #[] }, { accessFlags := 1, nameIndex := 5, descriptorIndex := 1010, attributes := #[] }, { accessFlags := 1, nameIndex := 507, descriptorIndex := 334, attributes := #[] }, { accessFlags := 1, nameIndex := 497, descriptorIndex := 427, attributes := #[] }, { accessFlags := 1, nameIndex := 635, descriptorIndex := 636, attributes := #[] }, { accessFlags := 1, nameIndex := 635, descriptorIndex := 713, attributes := #[] }, { accessFlags := 1, nameIndex := 683, descriptorIndex := 684, attributes := #[] }, { accessFlags := 2, nameIndex := 5, descriptorIndex := 29, attributes := #[] }, { accessFlags := 0, nameIndex := 5, descriptorIndex := 211, attributes := #[] }, { accessFlags := 0, nameIndex := 17, descriptorIndex := 337, attributes := #[] }, { accessFlags := 0, nameIndex := 494, descriptorIndex := 142, attributes := #[] }, { accessFlags := 8, nameIndex := 501, descriptorIndex := 391, attributes := #[] }, { accessFlags := 8, nameIndex := 523, descriptorIndex := 524, attributes := #[] }] 49 2 #[1106, 1108, 575, 1110, 1112] #[{ accessFlags := 18, nameIndex := 13, descriptorIndex := 14, attributes := #[] }, { accessFlags := 18, nameIndex := 17, descriptorIndex := 18, attributes := #[] }, { accessFlags := 2, nameIndex := 21, descriptorIndex := 22, attributes := #[] }, { accessFlags := 2, nameIndex := 25, descriptorIndex := 26, attributes := #[] }, { accessFlags := 26, nameIndex := 1116, descriptorIndex := 1117, attributes := #[] }, { accessFlags := 24, nameIndex := 40, descriptorIndex := 26, attributes := #[] }, { accessFlags := 26, nameIndex := 1101, descriptorIndex := 1102, attributes := #[] }, { accessFlags := 26, nameIndex := 1121, descriptorIndex := 1122, attributes := #[] }, { accessFlags := 25, nameIndex := 599, descriptorIndex := 600, attributes := #[] }, { accessFlags := 24, nameIndex := 1125, descriptorIndex := 18, attributes := #[] }, { accessFlags := 24, nameIndex := 1127, descriptorIndex := 18, attributes := #[] }])
  fields := #[{ name := "value", type := (.array .byte), accessFlags := 18, slot := 0, constantValue := 0 }, { name := "coder", type := .byte, accessFlags := 18, slot := 1, constantValue := 0 }, { name := "hash", type := .int, accessFlags := 2, slot := 2, constantValue := 0 }, { name := "hashIsZero", type := .boolean, accessFlags := 2, slot := 3, constantValue := 0 }, { name := "serialVersionUID", type := .long, accessFlags := 26, slot := 0, constantValue := 0 }, { name := "COMPACT_STRINGS", type := .boolean, accessFlags := 24, slot := 1, constantValue := 0 }, { name := "serialPersistentFields", type := (.array (.object "java/io/ObjectStreamField")), accessFlags := 26, slot := 2, constantValue := 0 }, { name := "REPL", type := .char, accessFlags := 26, slot := 3, constantValue := 0 }, { name := "CASE_INSENSITIVE_ORDER", type := (.object "java/util/Comparator"), accessFlags := 25, slot := 4, constantValue := 0 }, { name := "LATIN1", type := .byte, accessFlags := 24, slot := 5, constantValue := 0 }, { name := "UTF16", type := .byte, accessFlags := 24, slot := 6, constantValue := 0 }]
  methods := #[k7m0, k7m1, k7m2, k7m3, k7m4, k7m5, k7m6, k7m7, k7m8, k7m9, k7m10, k7m11, k7m12]
  instanceTypes := #[(.array .byte), .byte, .int, .boolean]
  staticTypes := #[.long, .boolean, (.array (.object "java/io/ObjectStreamField")), .char, (.object "java/util/Comparator"), .byte, .byte]
  resolved := Array.replicate 1451 none
  statics := some 0 }

def pool8 : Array CpInfo := pool [(1, .class_ 2), (0, u "java/lang/String"), (1, .class_ 6), (1, u "java/lang/Object"), (0, u "<init>"), (0, u "()V"), (0, .methodref 1 10), (0, .nameAndType 11 12), (0, u "checkIndex"), (0, u "(II)V"), (1, .class_ 16), (1, u "java/lang/StringLatin1"), (21, .methodref 39 40), (0, .class_ 41), (0, .nameAndType 42 43), (0, u "java/lang/Math"), (0, u "min"), (0, u "(II)I"), (9, u "([BI)C"), (34, .methodref 14 89), (0, .nameAndType 90 91), (0, u "canEncode"), (0, u "(I)Z"), (0, .methodref 39 93), (0, .nameAndType 94 43), (0, u "max"), (0, .methodref 14 96), (0, .nameAndType 97 98), (0, u "indexOfChar"), (0, u "([BIII)I"), (0, .methodref 14 100), (0, .nameAndType 101 102), (0, u "indexOf"), (0, u "([BI[BII)I"), (9, .methodref 1 113), (0, .nameAndType 7 114), (0, u "([BB)V"), (6, u "$assertionsDisabled"), (0, u "Z"), (8, .class_ 133), (1, u "java/util/Arrays"), (17, .string 152), (0, u ""), (43, u "newString"), (0, u "([BII)Ljava/lang/String;"), (23, .class_ 223), (1, u "java/lang/StringLatin1$LinesSpliterator"), (8, .methodref 131 233), (0, .nameAndType 234 235), (0, u "copyOfRange"), (0, u "([BII)[B"), (16, u "charAt"), (34, u "([B[B)I"), (102, .class_ 391), (0, u "java/lang/StringLatin1$CharsSpliterator")] 3

def k8m0 : Method := { name := "<init>", desc := "()V", sig := { parameters := [], returnType := none }, accessFlags := 0, code := none }
def k8c1 : Code := { maxStack := 2, maxLocals := 2, code := jdk_43_method_2_code, exceptionTable := #[], attributes := #[] }
def k8m1 : Method := { name := "charAt", desc := "([BI)C", sig := { parameters := [(.array .byte), .int], returnType := some .char }, accessFlags := 9, code := some k8c1 }
def k8c2 : Code := { maxStack := 2, maxLocals := 1, code := jdk_43_method_4_code, exceptionTable := #[], attributes := #[] }
def k8m2 : Method := { name := "canEncode", desc := "(I)Z", sig := { parameters := [.int], returnType := some .boolean }, accessFlags := 9, code := some k8c2 }
def k8c3 : Code := { maxStack := 4, maxLocals := 4, code := jdk_43_method_22_code, exceptionTable := #[], attributes := #[] }
def k8m3 : Method := { name := "indexOf", desc := "([BIII)I", sig := { parameters := [(.array .byte), .int, .int, .int], returnType := some .int }, accessFlags := 9, code := some k8c3 }
def k8c4 : Code := { maxStack := 2, maxLocals := 6, code := jdk_43_method_23_code, exceptionTable := #[], attributes := #[] }
def k8m4 : Method := { name := "indexOfChar", desc := "([BIII)I", sig := { parameters := [(.array .byte), .int, .int, .int], returnType := some .int }, accessFlags := 10, code := some k8c4 }
def k8c5 : Code := { maxStack := 5, maxLocals := 2, code := jdk_43_method_24_code, exceptionTable := #[], attributes := #[] }
def k8m5 : Method := { name := "indexOf", desc := "([B[B)I", sig := { parameters := [(.array .byte), (.array .byte)], returnType := some .int }, accessFlags := 9, code := some k8c5 }
def k8c6 : Code := { maxStack := 3, maxLocals := 11, code := jdk_43_method_25_code, exceptionTable := #[], attributes := #[] }
def k8m6 : Method := { name := "indexOf", desc := "([BI[BII)I", sig := { parameters := [(.array .byte), .int, (.array .byte), .int, .int], returnType := some .int }, accessFlags := 9, code := some k8c6 }
def k8c7 : Code := { maxStack := 6, maxLocals := 3, code := jdk_43_method_47_code, exceptionTable := #[], attributes := #[] }
def k8m7 : Method := { name := "newString", desc := "([BII)Ljava/lang/String;", sig := { parameters := [(.array .byte), .int, .int], returnType := some (.object "java/lang/String") }, accessFlags := 9, code := some k8c7 }
/-- java/lang/StringLatin1 -/
def k8 : Class := { plain "java/lang/StringLatin1" (some 0) with
  accessFlags := 48
  interfaces := #[]
  cf := some (fileOf pool8 14 #[.nestMembers #[390, 221]] #[{ accessFlags := 0, nameIndex := 7, descriptorIndex := 8, attributes := #[] }, { accessFlags := 9, nameIndex := 252, descriptorIndex := 53, attributes := #[] }, { accessFlags := 9, nameIndex := 90, descriptorIndex := 91, attributes := #[] }, { accessFlags := 9, nameIndex := 101, descriptorIndex := 98, attributes := #[] }, { accessFlags := 10, nameIndex := 97, descriptorIndex := 98, attributes := #[] }, { accessFlags := 9, nameIndex := 101, descriptorIndex := 287, attributes := #[] }, { accessFlags := 9, nameIndex := 101, descriptorIndex := 102, attributes := #[] }, { accessFlags := 9, nameIndex := 196, descriptorIndex := 197, attributes := #[] }] 48 4 #[] #[{ accessFlags := 4120, nameIndex := 121, descriptorIndex := 122, attributes := #[] }])
  fields := #[{ name := "$assertionsDisabled", type := .boolean, accessFlags := 4120, slot := 0, constantValue := 0 }]
  methods := #[k8m0, k8m1, k8m2, k8m3, k8m4, k8m5, k8m6, k8m7]
  instanceTypes := #[]
  staticTypes := #[.boolean]
  resolved := Array.replicate 395 none
  statics := none }

def pool9 : Array CpInfo := pool [(2, .class_ 4), (1, u "java/lang/Object"), (0, u "<init>"), (0, u "()V"), (17, .class_ 26), (1, u "jdk/internal/util/Preconditions"), (6, u "checkIndex"), (13, u "checkFromToIndex"), (7, .class_ 56), (0, u "jdk/internal/util/Preconditions$4"), (57, .class_ 115), (0, u "jdk/internal/util/Preconditions$1"), (7, u "SIOOBE_FORMATTER"), (0, u "Ljava/util/function/BiFunction;"), (0, .class_ 126), (0, u "jdk/internal/util/Preconditions$2"), (3, u "AIOOBE_FORMATTER"), (0, .class_ 132), (0, u "jdk/internal/util/Preconditions$3"), (3, u "IOOBE_FORMATTER"), (41, u "(IILjava/util/function/BiFunction;)I"), (4, u "(IIILjava/util/function/BiFunction;)I")] 10

def k9m0 : Method := { name := "<init>", desc := "()V", sig := { parameters := [], returnType := none }, accessFlags := 1, code := none }
def k9c1 : Code := { maxStack := 3, maxLocals := 3, code := jdk_41_method_11_code, exceptionTable := #[], attributes := #[] }
def k9m1 : Method := { name := "checkIndex", desc := "(IILjava/util/function/BiFunction;)I", sig := { parameters := [.int, .int, (.object "java/util/function/BiFunction")], returnType := some .int }, accessFlags := 9, code := some k9c1 }
def k9c2 : Code := { maxStack := 4, maxLocals := 4, code := jdk_41_method_12_code, exceptionTable := #[], attributes := #[] }
def k9m2 : Method := { name := "checkFromToIndex", desc := "(IIILjava/util/function/BiFunction;)I", sig := { parameters := [.int, .int, .int, (.object "java/util/function/BiFunction")], returnType := some .int }, accessFlags := 9, code := some k9c2 }
/-- jdk/internal/util/Preconditions -/
def k9 : Class := { plain "jdk/internal/util/Preconditions" (some 0) with
  accessFlags := 33
  interfaces := #[]
  cf := some (fileOf pool9 24 #[.nestMembers #[55, 131, 125, 114]] #[{ accessFlags := 1, nameIndex := 5, descriptorIndex := 6, attributes := #[] }, { accessFlags := 9, nameIndex := 33, descriptorIndex := 178, attributes := #[] }, { accessFlags := 9, nameIndex := 47, descriptorIndex := 183, attributes := #[] }] 33 2 #[] #[{ accessFlags := 25, nameIndex := 123, descriptorIndex := 124, attributes := #[] }, { accessFlags := 25, nameIndex := 130, descriptorIndex := 124, attributes := #[] }, { accessFlags := 25, nameIndex := 136, descriptorIndex := 124, attributes := #[] }])
  fields := #[{ name := "SIOOBE_FORMATTER", type := (.object "java/util/function/BiFunction"), accessFlags := 25, slot := 0, constantValue := 0 }, { name := "AIOOBE_FORMATTER", type := (.object "java/util/function/BiFunction"), accessFlags := 25, slot := 1, constantValue := 0 }, { name := "IOOBE_FORMATTER", type := (.object "java/util/function/BiFunction"), accessFlags := 25, slot := 2, constantValue := 0 }]
  methods := #[k9m0, k9m1, k9m2]
  instanceTypes := #[]
  staticTypes := #[(.object "java/util/function/BiFunction"), (.object "java/util/function/BiFunction"), (.object "java/util/function/BiFunction")]
  resolved := Array.replicate 194 none
  statics := some 1 }

def pool10 : Array CpInfo := pool [(6, .class_ 8), (1, u "java/lang/Object"), (0, u "<init>"), (0, u "()V"), (1, .class_ 14), (1, u "java/lang/StringUTF16"), (31, u "$assertionsDisabled"), (0, u "Z"), (13, u "HI_BYTE_SHIFT"), (0, u "I"), (2, u "LO_BYTE_SHIFT"), (49, .methodref 12 116), (0, .nameAndType 117 118), (0, u "compress"), (0, u "([CI[BII)I"), (3, u "([CII)[B"), (138, u "coderFromArrayLen"), (0, u "([BI)B"), (106, .class_ 371), (1, u "java/lang/StringUTF16$LinesSpliterator"), (58, u "MAX_LENGTH"), (196, .class_ 628), (0, u "java/lang/StringUTF16$CodePointsSpliterator"), (0, .class_ 630), (0, u "java/lang/StringUTF16$CharsSpliterator")] 4

def k10m0 : Method := { name := "<init>", desc := "()V", sig := { parameters := [], returnType := none }, accessFlags := 0, code := none }
def k10c1 : Code := { maxStack := 2, maxLocals := 2, code := jdk_52_method_15_code, exceptionTable := #[], attributes := #[] }
def k10m1 : Method := { name := "coderFromArrayLen", desc := "([BI)B", sig := { parameters := [(.array .byte), .int], returnType := some .byte }, accessFlags := 8, code := some k10c1 }
def k10c2 : Code := { maxStack := 5, maxLocals := 6, code := jdk_52_method_16_code, exceptionTable := #[], attributes := #[] }
def k10m2 : Method := { name := "compress", desc := "([CII)[B", sig := { parameters := [(.array .char), .int, .int], returnType := some (.array .byte) }, accessFlags := 9, code := some k10c2 }
def k10c3 : Code := { maxStack := 3, maxLocals := 7, code := jdk_52_method_21_code, exceptionTable := #[], attributes := #[] }
def k10m3 : Method := { name := "compress", desc := "([CI[BII)I", sig := { parameters := [(.array .char), .int, (.array .byte), .int, .int], returnType := some .int }, accessFlags := 9, code := some k10c3 }
/-- java/lang/StringUTF16 -/
def k10 : Class := { plain "java/lang/StringUTF16" (some 0) with
  accessFlags := 48
  interfaces := #[]
  cf := some (fileOf pool10 12 #[.nestMembers #[627, 629, 369]] #[{ accessFlags := 0, nameIndex := 9, descriptorIndex := 10, attributes := #[] }, { accessFlags := 8, nameIndex := 261, descriptorIndex := 262, attributes := #[] }, { accessFlags := 9, nameIndex := 117, descriptorIndex := 122, attributes := #[] }, { accessFlags := 9, nameIndex := 117, descriptorIndex := 118, attributes := #[] }] 48 6 #[] #[{ accessFlags := 26, nameIndex := 61, descriptorIndex := 62, attributes := #[] }, { accessFlags := 26, nameIndex := 65, descriptorIndex := 62, attributes := #[] }, { accessFlags := 24, nameIndex := 430, descriptorIndex := 62, attributes := #[] }, { accessFlags := 4120, nameIndex := 46, descriptorIndex := 47, attributes := #[] }])
  fields := #[{ name := "HI_BYTE_SHIFT", type := .int, accessFlags := 26, slot := 0, constantValue := 0 }, { name := "LO_BYTE_SHIFT", type := .int, accessFlags := 26, slot := 1, constantValue := 0 }, { name := "MAX_LENGTH", type := .int, accessFlags := 24, slot := 2, constantValue := 0 }, { name := "$assertionsDisabled", type := .boolean, accessFlags := 4120, slot := 3, constantValue := 0 }]
  methods := #[k10m0, k10m1, k10m2, k10m3]
  instanceTypes := #[]
  staticTypes := #[.int, .int, .int, .boolean]
  resolved := Array.replicate 635 none
  statics := none }

def pool11 : Array CpInfo := pool [(2, .class_ 4), (1, u "java/lang/Object"), (0, u "<init>"), (0, u "()V"), (13, .class_ 22), (1, u "com/example/lean_crawler/leancrawler/url/UrlNormalizer"), (9, .class_ 34), (1, u "java/lang/String"), (5, u "()I"), (17, u "indexOf"), (6, u "(Ljava/lang/String;)I"), (2, .methodref 32 69), (0, .nameAndType 70 71), (0, u "substring"), (0, u "(II)Ljava/lang/String;"), (4, .methodref 32 77), (0, .nameAndType 78 40), (0, u "length"), (9, u "path"), (2, u "PATH_CHARS"), (0, u "[Z"), (7, u "(Ljava/lang/String;)Ljava/lang/String;"), (12, .string 114), (0, u "://"), (14, u "QUERY_CHARS"), (3, .methodref 20 134), (0, .nameAndType 135 65), (0, u "pathStart"), (0, .methodref 32 137), (0, .nameAndType 58 138), (0, u "(II)I"), (0, .methodref 32 140), (0, .nameAndType 58 65), (74, u "IPV_FUTURE"), (0, u "Ljava/util/regex/Pattern;"), (15, u "HOST_CHARS"), (14, u "IPV4_ADDRESS"), (18, u "H16"), (23, u "UNRESERVED_CHARS"), (21, u "HEX_DIGITS"), (0, u "[C"), (57, u "DEC_OCTET"), (0, u "Ljava/lang/String;"), (3, u "IPV6_PIECES"), (0, u "I"), (1, u "UNRESERVED"), (0, u "SUB_DELIMS"), (2, u "MAX_PORT")] 51

def k11m0 : Method := { name := "<init>", desc := "()V", sig := { parameters := [], returnType := none }, accessFlags := 2, code := none }
def k11c1 : Code := { maxStack := 3, maxLocals := 3, code := prog_15_method_4_code, exceptionTable := #[], attributes := #[] }
def k11m1 : Method := { name := "path", desc := "(Ljava/lang/String;)Ljava/lang/String;", sig := { parameters := [(.object "java/lang/String")], returnType := some (.object "java/lang/String") }, accessFlags := 9, code := some k11c1 }
def k11c2 : Code := { maxStack := 4, maxLocals := 2, code := prog_15_method_6_code, exceptionTable := #[], attributes := #[] }
def k11m2 : Method := { name := "pathStart", desc := "(Ljava/lang/String;)I", sig := { parameters := [(.object "java/lang/String")], returnType := some .int }, accessFlags := 10, code := some k11c2 }
/-- com/example/lean_crawler/leancrawler/url/UrlNormalizer -/
def k11 : Class := { plain "com/example/lean_crawler/leancrawler/url/UrlNormalizer" (some 0) with
  accessFlags := 33
  interfaces := #[]
  cf := some (fileOf pool11 20 #[] #[{ accessFlags := 2, nameIndex := 5, descriptorIndex := 6, attributes := #[] }, { accessFlags := 9, nameIndex := 88, descriptorIndex := 100, attributes := #[] }, { accessFlags := 10, nameIndex := 135, descriptorIndex := 65, attributes := #[] }] 33 2 #[] #[{ accessFlags := 26, nameIndex := 215, descriptorIndex := 216, attributes := #[] }, { accessFlags := 26, nameIndex := 266, descriptorIndex := 216, attributes := #[] }, { accessFlags := 26, nameIndex := 371, descriptorIndex := 372, attributes := #[] }, { accessFlags := 26, nameIndex := 247, descriptorIndex := 216, attributes := #[] }, { accessFlags := 26, nameIndex := 376, descriptorIndex := 377, attributes := #[] }, { accessFlags := 26, nameIndex := 379, descriptorIndex := 372, attributes := #[] }, { accessFlags := 26, nameIndex := 380, descriptorIndex := 372, attributes := #[] }, { accessFlags := 26, nameIndex := 290, descriptorIndex := 92, attributes := #[] }, { accessFlags := 26, nameIndex := 232, descriptorIndex := 92, attributes := #[] }, { accessFlags := 26, nameIndex := 91, descriptorIndex := 92, attributes := #[] }, { accessFlags := 26, nameIndex := 129, descriptorIndex := 92, attributes := #[] }, { accessFlags := 26, nameIndex := 312, descriptorIndex := 313, attributes := #[] }, { accessFlags := 26, nameIndex := 383, descriptorIndex := 377, attributes := #[] }])
  fields := #[{ name := "IPV_FUTURE", type := (.object "java/util/regex/Pattern"), accessFlags := 26, slot := 0, constantValue := 0 }, { name := "H16", type := (.object "java/util/regex/Pattern"), accessFlags := 26, slot := 1, constantValue := 0 }, { name := "DEC_OCTET", type := (.object "java/lang/String"), accessFlags := 26, slot := 2, constantValue := 0 }, { name := "IPV4_ADDRESS", type := (.object "java/util/regex/Pattern"), accessFlags := 26, slot := 3, constantValue := 0 }, { name := "IPV6_PIECES", type := .int, accessFlags := 26, slot := 4, constantValue := 0 }, { name := "UNRESERVED", type := (.object "java/lang/String"), accessFlags := 26, slot := 5, constantValue := 0 }, { name := "SUB_DELIMS", type := (.object "java/lang/String"), accessFlags := 26, slot := 6, constantValue := 0 }, { name := "UNRESERVED_CHARS", type := (.array .boolean), accessFlags := 26, slot := 7, constantValue := 0 }, { name := "HOST_CHARS", type := (.array .boolean), accessFlags := 26, slot := 8, constantValue := 0 }, { name := "PATH_CHARS", type := (.array .boolean), accessFlags := 26, slot := 9, constantValue := 0 }, { name := "QUERY_CHARS", type := (.array .boolean), accessFlags := 26, slot := 10, constantValue := 0 }, { name := "HEX_DIGITS", type := (.array .char), accessFlags := 26, slot := 11, constantValue := 0 }, { name := "MAX_PORT", type := .int, accessFlags := 26, slot := 12, constantValue := 0 }]
  methods := #[k11m0, k11m1, k11m2]
  instanceTypes := #[]
  staticTypes := #[(.object "java/util/regex/Pattern"), (.object "java/util/regex/Pattern"), (.object "java/lang/String"), (.object "java/util/regex/Pattern"), .int, (.object "java/lang/String"), (.object "java/lang/String"), (.array .boolean), (.array .boolean), (.array .boolean), (.array .boolean), (.array .char), .int]
  resolved := Array.replicate 435 none
  statics := none }

def pool12 : Array CpInfo := pool [(1, .class_ 2), (0, u "java/lang/Math"), (1, .class_ 6), (1, u "java/lang/Object"), (0, u "<init>"), (0, u "()V"), (89, .class_ 100), (1, u "java/lang/Math$RandomNumberGeneratorHolder"), (71, u "negativeZeroFloatBits"), (0, u "J"), (2, u "negativeZeroDoubleBits"), (21, u "max"), (2, u "min"), (43, u "$assertionsDisabled"), (0, u "Z"), (88, u "(II)I"), (2, u "twoToTheDoubleScaleDown"), (0, u "D"), (4, u "twoToTheDoubleScaleUp"), (9, u "E"), (3, u "PI"), (2, u "TAU"), (2, u "DEGREES_TO_RADIANS"), (0, u "RADIANS_TO_DEGREES")] 94

def k12m0 : Method := { name := "<init>", desc := "()V", sig := { parameters := [], returnType := none }, accessFlags := 2, code := none }
def k12c1 : Code := { maxStack := 2, maxLocals := 2, code := jdk_29_method_65_code, exceptionTable := #[], attributes := #[] }
def k12m1 : Method := { name := "max", desc := "(II)I", sig := { parameters := [.int, .int], returnType := some .int }, accessFlags := 9, code := some k12c1 }
def k12c2 : Code := { maxStack := 2, maxLocals := 2, code := jdk_29_method_69_code, exceptionTable := #[], attributes := #[] }
def k12m2 : Method := { name := "min", desc := "(II)I", sig := { parameters := [.int, .int], returnType := some .int }, accessFlags := 9, code := some k12c2 }
/-- java/lang/Math -/
def k12 : Class := { plain "java/lang/Math" (some 0) with
  accessFlags := 49
  interfaces := #[]
  cf := some (fileOf pool12 1 #[.nestMembers #[98]] #[{ accessFlags := 2, nameIndex := 7, descriptorIndex := 8, attributes := #[] }, { accessFlags := 9, nameIndex := 198, descriptorIndex := 335, attributes := #[] }, { accessFlags := 9, nameIndex := 201, descriptorIndex := 335, attributes := #[] }] 49 4 #[] #[{ accessFlags := 25, nameIndex := 354, descriptorIndex := 339, attributes := #[] }, { accessFlags := 25, nameIndex := 358, descriptorIndex := 339, attributes := #[] }, { accessFlags := 25, nameIndex := 361, descriptorIndex := 339, attributes := #[] }, { accessFlags := 26, nameIndex := 364, descriptorIndex := 339, attributes := #[] }, { accessFlags := 26, nameIndex := 365, descriptorIndex := 339, attributes := #[] }, { accessFlags := 26, nameIndex := 172, descriptorIndex := 173, attributes := #[] }, { accessFlags := 26, nameIndex := 176, descriptorIndex := 173, attributes := #[] }, { accessFlags := 8, nameIndex := 344, descriptorIndex := 339, attributes := #[] }, { accessFlags := 8, nameIndex := 338, descriptorIndex := 339, attributes := #[] }, { accessFlags := 4120, nameIndex := 245, descriptorIndex := 246, attributes := #[] }])
  fields := #[{ name := "E", type := .double, accessFlags := 25, slot := 0, constantValue := 0 }, { name := "PI", type := .double, accessFlags := 25, slot := 1, constantValue := 0 }, { name := "TAU", type := .double, accessFlags := 25, slot := 2, constantValue := 0 }, { name := "DEGREES_TO_RADIANS", type := .double, accessFlags := 26, slot := 3, constantValue := 0 }, { name := "RADIANS_TO_DEGREES", type := .double, accessFlags := 26, slot := 4, constantValue := 0 }, { name := "negativeZeroFloatBits", type := .long, accessFlags := 26, slot := 5, constantValue := 0 }, { name := "negativeZeroDoubleBits", type := .long, accessFlags := 26, slot := 6, constantValue := 0 }, { name := "twoToTheDoubleScaleUp", type := .double, accessFlags := 8, slot := 7, constantValue := 0 }, { name := "twoToTheDoubleScaleDown", type := .double, accessFlags := 8, slot := 8, constantValue := 0 }, { name := "$assertionsDisabled", type := .boolean, accessFlags := 4120, slot := 9, constantValue := 0 }]
  methods := #[k12m0, k12m1, k12m2]
  instanceTypes := #[]
  staticTypes := #[.double, .double, .double, .double, .double, .long, .long, .double, .double, .boolean]
  resolved := Array.replicate 460 none
  statics := none }

def pool13 : Array CpInfo := pool [(2, .class_ 4), (1, u "java/lang/Object"), (0, u "<init>"), (0, u "()V"), (7, .class_ 16), (1, u "java/util/Arrays"), (57, .class_ 76), (1, u "java/util/Arrays$NaturalOrder"), (36, .class_ 115), (1, u "java/util/Arrays$LegacyMergeSort"), (1, u "Z"), (21, u "copyOfRange"), (10, .methodref 151 152), (0, .class_ 153), (0, .nameAndType 154 155), (0, u "java/lang/System"), (0, u "arraycopy"), (0, u "(Ljava/lang/Object;ILjava/lang/Object;II)V"), (148, .methodref 305 306), (0, .class_ 307), (0, .nameAndType 308 309), (0, u "java/lang/Math"), (0, u "min"), (0, u "(II)I"), (29, .methodref 14 340), (0, .nameAndType 341 342), (0, u "copyOfRangeByte"), (0, u "([BII)[B"), (0, .methodref 14 344), (0, .nameAndType 345 346), (0, u "checkLength"), (0, u "(II)V"), (28, .class_ 376), (0, u "java/util/Arrays$ArrayList"), (68, u "$assertionsDisabled"), (269, u "MIN_ARRAY_SORT_GRAN"), (0, u "I"), (2, u "INSERTIONSORT_THRESHOLD"), (255, .class_ 976), (0, u "java/util/Arrays$ArrayItr")] 52

def k13m0 : Method := { name := "<init>", desc := "()V", sig := { parameters := [], returnType := none }, accessFlags := 2, code := none }
def k13c1 : Code := { maxStack := 4, maxLocals := 2, code := jdk_65_method_131_code, exceptionTable := #[], attributes := #[] }
def k13m1 : Method := { name := "checkLength", desc := "(II)V", sig := { parameters := [.int, .int], returnType := none }, accessFlags := 10, code := some k13c1 }
def k13c2 : Code := { maxStack := 3, maxLocals := 3, code := jdk_65_method_132_code, exceptionTable := #[], attributes := #[] }
def k13m2 : Method := { name := "copyOfRange", desc := "([BII)[B", sig := { parameters := [(.array .byte), .int, .int], returnType := some (.array .byte) }, accessFlags := 9, code := some k13c2 }
def k13c3 : Code := { maxStack := 6, maxLocals := 5, code := jdk_65_method_133_code, exceptionTable := #[], attributes := #[] }
def k13m3 : Method := { name := "copyOfRangeByte", desc := "([BII)[B", sig := { parameters := [(.array .byte), .int, .int], returnType := some (.array .byte) }, accessFlags := 10, code := some k13c3 }
/-- java/util/Arrays -/
def k13 : Class := { plain "java/util/Arrays" (some 0) with
  accessFlags := 49
  interfaces := #[]
  cf := some (fileOf pool13 14 #[.nestMembers #[975, 375, 113, 74]] #[{ accessFlags := 2, nameIndex := 5, descriptorIndex := 6, attributes := #[] }, { accessFlags := 10, nameIndex := 345, descriptorIndex := 346, attributes := #[] }, { accessFlags := 9, nameIndex := 139, descriptorIndex := 342, attributes := #[] }, { accessFlags := 10, nameIndex := 341, descriptorIndex := 342, attributes := #[] }] 49 2 #[] #[{ accessFlags := 26, nameIndex := 715, descriptorIndex := 716, attributes := #[] }, { accessFlags := 26, nameIndex := 719, descriptorIndex := 716, attributes := #[] }, { accessFlags := 4120, nameIndex := 445, descriptorIndex := 117, attributes := #[] }])
  fields := #[{ name := "MIN_ARRAY_SORT_GRAN", type := .int, accessFlags := 26, slot := 0, constantValue := 0 }, { name := "INSERTIONSORT_THRESHOLD", type := .int, accessFlags := 26, slot := 1, constantValue := 0 }, { name := "$assertionsDisabled", type := .boolean, accessFlags := 4120, slot := 2, constantValue := 0 }]
  methods := #[k13m0, k13m1, k13m2, k13m3]
  instanceTypes := #[]
  staticTypes := #[.int, .int, .boolean]
  resolved := Array.replicate 1029 none
  statics := none }

def pool14 : Array CpInfo := pool [(2, .class_ 4), (1, u "java/lang/Object"), (0, u "<init>"), (0, u "()V"), (1, .class_ 10), (1, u "java/lang/System"), (0, u "allowSecurityManager"), (0, u "I"), (16, u "cons"), (0, u "Ljava/io/Console;"), (77, .class_ 110), (1, u "java/lang/System$CallersHolder"), (43, u "initialErrStream"), (0, u "Ljava/io/PrintStream;"), (19, u "security"), (0, u "Ljava/lang/SecurityManager;"), (31, .class_ 209), (0, u "java/lang/System$1"), (7, u "props"), (0, u "Ljava/util/Properties;"), (2, u "lineSeparator"), (0, u "Ljava/lang/String;"), (96, .class_ 321), (1, u "java/lang/System$LoggerFinder"), (5, .class_ 328), (0, u "java/lang/System$Logger"), (67, u "err"), (2, u "out"), (91, u "notSupportedJnuEncoding"), (15, u "in"), (17, u "initialIn"), (0, u "Ljava/io/InputStream;"), (35, u "bootLayer"), (0, u "Ljava/lang/ModuleLayer;"), (99, .class_ 664), (0, u "java/lang/System$2"), (9, u "NEVER"), (2, u "MAYBE"), (49, u "arraycopy"), (0, u "(Ljava/lang/Object;ILjava/lang/Object;II)V"), (72, .class_ 802), (0, u "java/lang/System$Logger$Level")] 31

def k14m0 : Method := { name := "<init>", desc := "()V", sig := { parameters := [], returnType := none }, accessFlags := 2, code := none }
def k14m1 : Method := { name := "arraycopy", desc := "(Ljava/lang/Object;ILjava/lang/Object;II)V", sig := { parameters := [(.object "java/lang/Object"), .int, (.object "java/lang/Object"), .int, .int], returnType := none }, accessFlags := 265, code := none }
/-- java/lang/System -/
def k14 : Class := { plain "java/lang/System" (some 0) with
  accessFlags := 49
  interfaces := #[]
  cf := some (fileOf pool14 8 #[.nestMembers #[319, 327, 801, 108, 663, 208]] #[{ accessFlags := 2, nameIndex := 5, descriptorIndex := 6, attributes := #[] }, { accessFlags := 265, nameIndex := 727, descriptorIndex := 728, attributes := #[] }] 49 2 #[] #[{ accessFlags := 25, nameIndex := 507, descriptorIndex := 526, attributes := #[] }, { accessFlags := 25, nameIndex := 399, descriptorIndex := 155, attributes := #[] }, { accessFlags := 25, nameIndex := 396, descriptorIndex := 155, attributes := #[] }, { accessFlags := 10, nameIndex := 525, descriptorIndex := 526, attributes := #[] }, { accessFlags := 26, nameIndex := 674, descriptorIndex := 12, attributes := #[] }, { accessFlags := 26, nameIndex := 677, descriptorIndex := 12, attributes := #[] }, { accessFlags := 10, nameIndex := 11, descriptorIndex := 12, attributes := #[] }, { accessFlags := 74, nameIndex := 175, descriptorIndex := 176, attributes := #[] }, { accessFlags := 10, nameIndex := 491, descriptorIndex := 222, attributes := #[] }, { accessFlags := 74, nameIndex := 29, descriptorIndex := 30, attributes := #[] }, { accessFlags := 74, nameIndex := 154, descriptorIndex := 155, attributes := #[] }, { accessFlags := 10, nameIndex := 217, descriptorIndex := 218, attributes := #[] }, { accessFlags := 10, nameIndex := 221, descriptorIndex := 222, attributes := #[] }, { accessFlags := 8, nameIndex := 562, descriptorIndex := 563, attributes := #[] }])
  fields := #[{ name := "in", type := (.object "java/io/InputStream"), accessFlags := 25, slot := 0, constantValue := 0 }, { name := "out", type := (.object "java/io/PrintStream"), accessFlags := 25, slot := 1, constantValue := 0 }, { name := "err", type := (.object "java/io/PrintStream"), accessFlags := 25, slot := 2, constantValue := 0 }, { name := "initialIn", type := (.object "java/io/InputStream"), accessFlags := 10, slot := 3, constantValue := 0 }, { name := "NEVER", type := .int, accessFlags := 26, slot := 4, constantValue := 0 }, { name := "MAYBE", type := .int, accessFlags := 26, slot := 5, constantValue := 0 }, { name := "allowSecurityManager", type := .int, accessFlags := 10, slot := 6, constantValue := 0 }, { name := "security", type := (.object "java/lang/SecurityManager"), accessFlags := 74, slot := 7, constantValue := 0 }, { name := "notSupportedJnuEncoding", type := (.object "java/lang/String"), accessFlags := 10, slot := 8, constantValue := 0 }, { name := "cons", type := (.object "java/io/Console"), accessFlags := 74, slot := 9, constantValue := 0 }, { name := "initialErrStream", type := (.object "java/io/PrintStream"), accessFlags := 74, slot := 10, constantValue := 0 }, { name := "props", type := (.object "java/util/Properties"), accessFlags := 10, slot := 11, constantValue := 0 }, { name := "lineSeparator", type := (.object "java/lang/String"), accessFlags := 10, slot := 12, constantValue := 0 }, { name := "bootLayer", type := (.object "java/lang/ModuleLayer"), accessFlags := 8, slot := 13, constantValue := 0 }]
  methods := #[k14m0, k14m1]
  instanceTypes := #[]
  staticTypes := #[(.object "java/io/InputStream"), (.object "java/io/PrintStream"), (.object "java/io/PrintStream"), (.object "java/io/InputStream"), .int, .int, .int, (.object "java/lang/SecurityManager"), (.object "java/lang/String"), (.object "java/io/Console"), (.object "java/io/PrintStream"), (.object "java/util/Properties"), (.object "java/lang/String"), (.object "java/lang/ModuleLayer")]
  resolved := Array.replicate 834 none
  statics := none }

def pool15 : Array CpInfo := pool [(9, u "<init>"), (6, .class_ 18), (1, u "java/lang/Object"), (0, u "()V"), (1, .class_ 23), (1, u "jdk/internal/util/ArraysSupport"), (0, u "LOG2_ARRAY_LONG_INDEX_SCALE"), (0, u "I"), (2, u "U"), (0, u "Ljdk/internal/misc/Unsafe;"), (8, u "BIG_ENDIAN"), (0, u "Z"), (8, u "LOG2_BYTE_BIT_SIZE"), (4, u "LOG2_ARRAY_INT_INDEX_SCALE"), (54, u "JLA"), (0, u "Ljdk/internal/access/JavaLangAccess;"), (11, u "LOG2_ARRAY_BOOLEAN_INDEX_SCALE"), (9, u "LOG2_ARRAY_BYTE_INDEX_SCALE"), (5, u "LOG2_ARRAY_CHAR_INDEX_SCALE"), (5, u "LOG2_ARRAY_SHORT_INDEX_SCALE"), (18, u "LOG2_ARRAY_FLOAT_INDEX_SCALE"), (24, u "LOG2_ARRAY_DOUBLE_INDEX_SCALE"), (89, u "T_BOOLEAN"), (2, u "T_CHAR"), (1, u "T_FLOAT"), (1, u "T_DOUBLE"), (1, u "T_BYTE"), (1, u "T_SHORT"), (1, u "T_INT"), (1, u "T_LONG"), (1, u "SOFT_MAX_ARRAY_LENGTH")] 83

def k15m0 : Method := { name := "<init>", desc := "()V", sig := { parameters := [], returnType := none }, accessFlags := 2, code := none }
/-- jdk/internal/util/ArraysSupport -/
def k15 : Class := { plain "jdk/internal/util/ArraysSupport" (some 0) with
  accessFlags := 33
  interfaces := #[]
  cf := some (fileOf pool15 21 #[] #[{ accessFlags := 2, nameIndex := 9, descriptorIndex := 19, attributes := #[] }] 33 16 #[] #[{ accessFlags := 24, nameIndex := 28, descriptorIndex := 29, attributes := #[] }, { accessFlags := 26, nameIndex := 38, descriptorIndex := 39, attributes := #[] }, { accessFlags := 25, nameIndex := 121, descriptorIndex := 25, attributes := #[] }, { accessFlags := 25, nameIndex := 131, descriptorIndex := 25, attributes := #[] }, { accessFlags := 25, nameIndex := 137, descriptorIndex := 25, attributes := #[] }, { accessFlags := 25, nameIndex := 143, descriptorIndex := 25, attributes := #[] }, { accessFlags := 25, nameIndex := 53, descriptorIndex := 25, attributes := #[] }, { accessFlags := 25, nameIndex := 24, descriptorIndex := 25, attributes := #[] }, { accessFlags := 25, nameIndex := 162, descriptorIndex := 25, attributes := #[] }, { accessFlags := 25, nameIndex := 187, descriptorIndex := 25, attributes := #[] }, { accessFlags := 26, nameIndex := 48, descriptorIndex := 25, attributes := #[] }, { accessFlags := 25, nameIndex := 277, descriptorIndex := 25, attributes := #[] }, { accessFlags := 25, nameIndex := 280, descriptorIndex := 25, attributes := #[] }, { accessFlags := 25, nameIndex := 282, descriptorIndex := 25, attributes := #[] }, { accessFlags := 25, nameIndex := 284, descriptorIndex := 25, attributes := #[] }, { accessFlags := 25, nameIndex := 286, descriptorIndex := 25, attributes := #[] }, { accessFlags := 25, nameIndex := 288, descriptorIndex := 25, attributes := #[] }, { accessFlags := 25, nameIndex := 290, descriptorIndex := 25, attributes := #[] }, { accessFlags := 25, nameIndex := 292, descriptorIndex := 25, attributes := #[] }, { accessFlags := 26, nameIndex := 108, descriptorIndex := 109, attributes := #[] }, { accessFlags := 25, nameIndex := 294, descriptorIndex := 25, attributes := #[] }])
  fields := #[{ name := "U", type := (.object "jdk/internal/misc/Unsafe"), accessFlags := 24, slot := 0, constantValue := 0 }, { name := "BIG_ENDIAN", type := .boolean, accessFlags := 26, slot := 1, constantValue := 0 }, { name := "LOG2_ARRAY_BOOLEAN_INDEX_SCALE", type := .int, accessFlags := 25, slot := 2, constantValue := 0 }, { name := "LOG2_ARRAY_BYTE_INDEX_SCALE", type := .int, accessFlags := 25, slot := 3, constantValue := 0 }, { name := "LOG2_ARRAY_CHAR_INDEX_SCALE", type := .int, accessFlags := 25, slot := 4, constantValue := 0 }, { name := "LOG2_ARRAY_SHORT_INDEX_SCALE", type := .int, accessFlags := 25, slot := 5, constantValue := 0 }, { name := "LOG2_ARRAY_INT_INDEX_SCALE", type := .int, accessFlags := 25, slot := 6, constantValue := 0 }, { name := "LOG2_ARRAY_LONG_INDEX_SCALE", type := .int, accessFlags := 25, slot := 7, constantValue := 0 }, { name := "LOG2_ARRAY_FLOAT_INDEX_SCALE", type := .int, accessFlags := 25, slot := 8, constantValue := 0 }, { name := "LOG2_ARRAY_DOUBLE_INDEX_SCALE", type := .int, accessFlags := 25, slot := 9, constantValue := 0 }, { name := "LOG2_BYTE_BIT_SIZE", type := .int, accessFlags := 26, slot := 10, constantValue := 0 }, { name := "T_BOOLEAN", type := .int, accessFlags := 25, slot := 11, constantValue := 0 }, { name := "T_CHAR", type := .int, accessFlags := 25, slot := 12, constantValue := 0 }, { name := "T_FLOAT", type := .int, accessFlags := 25, slot := 13, constantValue := 0 }, { name := "T_DOUBLE", type := .int, accessFlags := 25, slot := 14, constantValue := 0 }, { name := "T_BYTE", type := .int, accessFlags := 25, slot := 15, constantValue := 0 }, { name := "T_SHORT", type := .int, accessFlags := 25, slot := 16, constantValue := 0 }, { name := "T_INT", type := .int, accessFlags := 25, slot := 17, constantValue := 0 }, { name := "T_LONG", type := .int, accessFlags := 25, slot := 18, constantValue := 0 }, { name := "JLA", type := (.object "jdk/internal/access/JavaLangAccess"), accessFlags := 26, slot := 19, constantValue := 0 }, { name := "SOFT_MAX_ARRAY_LENGTH", type := .int, accessFlags := 25, slot := 20, constantValue := 0 }]
  methods := #[k15m0]
  instanceTypes := #[]
  staticTypes := #[(.object "jdk/internal/misc/Unsafe"), .boolean, .int, .int, .int, .int, .int, .int, .int, .int, .int, .int, .int, .int, .int, .int, .int, .int, .int, (.object "jdk/internal/access/JavaLangAccess"), .int]
  resolved := Array.replicate 378 none
  statics := none }

def pool16 : Array CpInfo := pool [(1, u "java/lang/Cloneable"), (0, .class_ 1), (0, u "java/lang/Object"), (0, .class_ 3)] 3

/-- java/lang/Cloneable -/
def k16 : Class := { plain "java/lang/Cloneable" (some 0) with
  accessFlags := 1537
  interfaces := #[]
  cf := some (fileOf pool16 2 #[] #[] 1537 4 #[] #[])
  fields := #[]
  methods := #[]
  instanceTypes := #[]
  staticTypes := #[]
  resolved := Array.replicate 8 none
  statics := none }

/-- the primitive byte -/
def k17 : Class := { plain "byte" none with kind := .primitive 'B', accessFlags := 0x411 }
/-- [B -/
def k18 : Class := { plain "[B" (some 0) with kind := .array 17 .byte, interfaces := #[16, 2], accessFlags := 1041 }

/-- the primitive char -/
def k19 : Class := { plain "char" none with kind := .primitive 'C', accessFlags := 0x411 }
/-- [C -/
def k20 : Class := { plain "[C" (some 0) with kind := .array 19 .char, interfaces := #[16, 2], accessFlags := 1041 }

/-- the primitive int -/
def k21 : Class := { plain "int" none with kind := .primitive 'I', accessFlags := 0x411 }
/-- [I -/
def k22 : Class := { plain "[I" (some 0) with kind := .array 21 .int, interfaces := #[16, 2], accessFlags := 1041 }

def heap : Heap := #[{ cls := 7, slots := #[.long 0, .int 1, .null, .int 0, .null, .int 0, .int 0], vm := .statics 7 },
  { cls := 9, slots := #[.null, .null, .null], vm := .statics 9 }]
def classes : Array Class := #[k0, k1, k2, k3, k4, k5, k6, k7, k8, k9, k10, k11, k12, k13, k14, k15, k16, k17, k18, k19, k20, k21, k22]
def interned : List (Array UInt16 × Addr) := []
def slotsUsed : Nat := 10
def theMethod : MethodId := ⟨1, 3⟩
def args0 : Array Value := #[.int 1, .int 6, .int 7, .long 123456789]
def aboutOver (below : List Frame) : State where
  vm := { classes := classes, interned := interned.toArray }
  heap := heap
  slotsUsed := slotsUsed
  threads := #[{ frames := .invoking theMethod args0 :: below }]
def below0 : List Frame := [.native { method := ⟨0, 0⟩, args := #[] }]
def about1 : State := aboutOver below0
def p0 : Program := .bare "" "" ""
def e0 : Env := launch0.env 0 0 0
theorem w_frames : about1.frames = Frame.invoking theMethod args0 :: below0 := rfl
set_option maxRecDepth 65536 in
theorem w_args : argsFit about1.vm theMethod args0 = true := by decide +kernel
set_option maxRecDepth 65536 in
theorem w_heap : heapFits about1 = true := by decide +kernel
set_option maxRecDepth 65536 in
theorem w_runnable : about1.curStatus? = some .runnable := by decide +kernel
set_option maxRecDepth 65536 in
theorem w_alone : about1.alone = true := by decide +kernel
set_option maxRecDepth 65536 in
theorem w_named : about1.methodNamed? x = some theMethod := by decide +kernel
set_option maxRecDepth 65536 in
theorem w_hears : about1.hears theMethod below0 = true := by decide +kernel
set_option maxRecDepth 65536 in
theorem w_ripe : about1.ripe theMethod args0 below0 = true := by decide +kernel
theorem w_running : about1.status = .running := rfl
set_option maxRecDepth 65536 in
theorem w_room : about1.hasRoom e0.platform room_1 = true :=
  launch0.hasRoom_least _ room_1 (by decide +kernel) (by decide +kernel) (by decide +kernel) (by decide +kernel) (by decide +kernel) (by decide +kernel)
theorem allAtoms_all (ts : List Jvm.Cond) (a : Array Jvm.Value) (st : Jvm.State) : (allAtoms ts).before a st = ts.all (fun c => c.before a st) := by
  induction ts with
  | nil => rfl
  | cons c t ih =>
    show (Jvm.Cond.and c (allAtoms t)).before a st = _
    rw [Jvm.Cond.before_and, ih, List.all_cons]
def words1 : List Jvm.Cond := Jvm.Cond.code x code maxLocals ret :: tables_1
/-- a 'code' word, met by the world's own term for the bytes: nothing is compared byte by byte -/
theorem code_word {y : MethodName} {bytes : ByteArray} {mx : Nat} {rt : Option FieldType} {a : Array Value} {s : State} {m : MethodId} {meth : Method} {c : Code} (h1 : s.methodNamed? y = some m) (h2 : s.vm.method? m = some meth) (h3 : meth.code = some c) (h4 : c.code = bytes)
    (h5 : (c.maxLocals == mx && c.exceptionTable.isEmpty && decide (c.maxStack ≤ mostOperands) && decide (meth.sig.returnType = rt) && !meth.locks && decide (parseMethodDescriptor y.desc = some meth.sig)) = true) : (Jvm.Cond.code y bytes mx rt).before a s = true := by
  simp only [Bool.and_eq_true, beq_iff_eq, Bool.not_eq_true', decide_eq_true_eq] at h5
  obtain ⟨⟨⟨⟨⟨g1, g2⟩, g3⟩, g4⟩, g5⟩, g6⟩ := h5
  simp [Cond.before, Cond.holds, Cond.value, h1, h2, h3, h4, g1, g2, g3, g4, g5, g6]
def isCode : Jvm.Cond → Bool
  | .code _ _ _ _ => true
  | _ => false
theorem all_split {L : List Jvm.Cond} {P : Jvm.Cond → Bool} (h1 : L.all (fun c => isCode c || P c) = true) (h2 : ∀ c ∈ L.filter isCode, P c = true) : L.all P = true := by
  refine List.all_eq_true.mpr fun c hc => ?_
  have h := List.all_eq_true.mp h1 c hc
  rcases Bool.eq_false_or_eq_true (isCode c) with hi | hi
  · exact h2 c (List.mem_filter.mpr ⟨hc, hi⟩)
  · simpa [hi] using h
set_option maxRecDepth 65536 in
theorem w_c0 : (Jvm.Cond.code x code maxLocals ret).before args0 about1 = true := code_word (m := ⟨1, 3⟩) (meth := k1m3) (c := k1c3) (by decide +kernel) rfl rfl rfl (by decide +kernel)
set_option maxRecDepth 65536 in
theorem w_c1 : (Jvm.Cond.code ({ cls := "com/example/lean_crawler/leancrawler/url/UrlNormalizerPathPinLaw", name := "at", desc := "(IIIIIJ)C" } : Jvm.MethodName) method_2_code (8 : Nat) (Option.some Jvm.ClassFile.FieldType.char)).before args0 about1 = true := code_word (m := ⟨1, 1⟩) (meth := k1m1) (c := k1c1) (by decide +kernel) rfl rfl rfl (by decide +kernel)
set_option maxRecDepth 65536 in
theorem w_c2 : (Jvm.Cond.code ({ cls := "java/lang/String", name := "charAt", desc := "(I)C" } : Jvm.MethodName) jdk_42_method_56_code (2 : Nat) (Option.some Jvm.ClassFile.FieldType.char)).before args0 about1 = true := code_word (m := ⟨7, 3⟩) (meth := k7m3) (c := k7c3) (by decide +kernel) rfl rfl rfl (by decide +kernel)
set_option maxRecDepth 65536 in
theorem w_c3 : (Jvm.Cond.code ({ cls := "java/lang/String", name := "isLatin1", desc := "()Z" } : Jvm.MethodName) jdk_42_method_154_code (1 : Nat) (Option.some Jvm.ClassFile.FieldType.boolean)).before args0 about1 = true := code_word (m := ⟨7, 10⟩) (meth := k7m10) (c := k7c10) (by decide +kernel) rfl rfl rfl (by decide +kernel)
set_option maxRecDepth 65536 in
theorem w_c4 : (Jvm.Cond.code ({ cls := "java/lang/StringLatin1", name := "charAt", desc := "([BI)C" } : Jvm.MethodName) jdk_43_method_2_code (2 : Nat) (Option.some Jvm.ClassFile.FieldType.char)).before args0 about1 = true := code_word (m := ⟨8, 1⟩) (meth := k8m1) (c := k8c1) (by decide +kernel) rfl rfl rfl (by decide +kernel)
set_option maxRecDepth 65536 in
theorem w_c5 : (Jvm.Cond.code ({ cls := "java/lang/String", name := "checkIndex", desc := "(II)V" } : Jvm.MethodName) jdk_42_method_155_code (2 : Nat) (Option.none : Option Jvm.ClassFile.FieldType)).before args0 about1 = true := code_word (m := ⟨7, 11⟩) (meth := k7m11) (c := k7c11) (by decide +kernel) rfl rfl rfl (by decide +kernel)
set_option maxRecDepth 65536 in
theorem w_c6 : (Jvm.Cond.code ({ cls := "jdk/internal/util/Preconditions", name := "checkIndex", desc := "(IILjava/util/function/BiFunction;)I" } : Jvm.MethodName) jdk_41_method_11_code (3 : Nat) (Option.some Jvm.ClassFile.FieldType.int)).before args0 about1 = true := code_word (m := ⟨9, 1⟩) (meth := k9m1) (c := k9c1) (by decide +kernel) rfl rfl rfl (by decide +kernel)
set_option maxRecDepth 65536 in
theorem w_c7 : (Jvm.Cond.code ({ cls := "java/lang/String", name := "<init>", desc := "([C)V" } : Jvm.MethodName) jdk_42_method_3_code (2 : Nat) (Option.none : Option Jvm.ClassFile.FieldType)).before args0 about1 = true := code_word (m := ⟨7, 1⟩) (meth := k7m1) (c := k7c1) (by decide +kernel) rfl rfl rfl (by decide +kernel)
set_option maxRecDepth 65536 in
theorem w_c8 : (Jvm.Cond.code ({ cls := "java/lang/String", name := "<init>", desc := "([CIILjava/lang/Void;)V" } : Jvm.MethodName) jdk_42_method_149_code (6 : Nat) (Option.none : Option Jvm.ClassFile.FieldType)).before args0 about1 = true := code_word (m := ⟨7, 7⟩) (meth := k7m7) (c := k7c7) (by decide +kernel) rfl rfl rfl (by decide +kernel)
set_option maxRecDepth 65536 in
theorem w_c9 : (Jvm.Cond.code ({ cls := "java/lang/Object", name := "<init>", desc := "()V" } : Jvm.MethodName) object_method_1_code (1 : Nat) (Option.none : Option Jvm.ClassFile.FieldType)).before args0 about1 = true := code_word (m := ⟨0, 0⟩) (meth := k0m0) (c := k0c0) (by decide +kernel) rfl rfl rfl (by decide +kernel)
set_option maxRecDepth 65536 in
theorem w_c10 : (Jvm.Cond.code ({ cls := "java/lang/StringUTF16", name := "compress", desc := "([CII)[B" } : Jvm.MethodName) jdk_52_method_16_code (6 : Nat) (Option.some (Jvm.ClassFile.FieldType.array Jvm.ClassFile.FieldType.byte))).before args0 about1 = true := code_word (m := ⟨10, 2⟩) (meth := k10m2) (c := k10c2) (by decide +kernel) rfl rfl rfl (by decide +kernel)
set_option maxRecDepth 65536 in
theorem w_c11 : (Jvm.Cond.code ({ cls := "java/lang/StringUTF16", name := "compress", desc := "([CI[BII)I" } : Jvm.MethodName) jdk_52_method_21_code (7 : Nat) (Option.some Jvm.ClassFile.FieldType.int)).before args0 about1 = true := code_word (m := ⟨10, 3⟩) (meth := k10m3) (c := k10c3) (by decide +kernel) rfl rfl rfl (by decide +kernel)
set_option maxRecDepth 65536 in
theorem w_c12 : (Jvm.Cond.code ({ cls := "java/lang/StringUTF16", name := "coderFromArrayLen", desc := "([BI)B" } : Jvm.MethodName) jdk_52_method_15_code (2 : Nat) (Option.some Jvm.ClassFile.FieldType.byte)).before args0 about1 = true := code_word (m := ⟨10, 1⟩) (meth := k10m1) (c := k10c1) (by decide +kernel) rfl rfl rfl (by decide +kernel)
set_option maxRecDepth 65536 in
theorem w_c13 : (Jvm.Cond.code ({ cls := "com/example/lean_crawler/leancrawler/url/UrlNormalizer", name := "path", desc := "(Ljava/lang/String;)Ljava/lang/String;" } : Jvm.MethodName) prog_15_method_4_code (3 : Nat) (Option.some (Jvm.ClassFile.FieldType.object "java/lang/String"))).before args0 about1 = true := code_word (m := ⟨11, 1⟩) (meth := k11m1) (c := k11c1) (by decide +kernel) rfl rfl rfl (by decide +kernel)
set_option maxRecDepth 65536 in
theorem w_c14 : (Jvm.Cond.code ({ cls := "com/example/lean_crawler/leancrawler/url/UrlNormalizer", name := "pathStart", desc := "(Ljava/lang/String;)I" } : Jvm.MethodName) prog_15_method_6_code (2 : Nat) (Option.some Jvm.ClassFile.FieldType.int)).before args0 about1 = true := code_word (m := ⟨11, 2⟩) (meth := k11m2) (c := k11c2) (by decide +kernel) rfl rfl rfl (by decide +kernel)
set_option maxRecDepth 65536 in
theorem w_c15 : (Jvm.Cond.code ({ cls := "java/lang/String", name := "indexOf", desc := "(Ljava/lang/String;)I" } : Jvm.MethodName) jdk_42_method_84_code (3 : Nat) (Option.some Jvm.ClassFile.FieldType.int)).before args0 about1 = true := code_word (m := ⟨7, 5⟩) (meth := k7m5) (c := k7c5) (by decide +kernel) rfl rfl rfl (by decide +kernel)
set_option maxRecDepth 65536 in
theorem w_c16 : (Jvm.Cond.code ({ cls := "java/lang/String", name := "coder", desc := "()B" } : Jvm.MethodName) jdk_42_method_152_code (1 : Nat) (Option.some Jvm.ClassFile.FieldType.byte)).before args0 about1 = true := code_word (m := ⟨7, 9⟩) (meth := k7m9) (c := k7c9) (by decide +kernel) rfl rfl rfl (by decide +kernel)
set_option maxRecDepth 65536 in
theorem w_c17 : (Jvm.Cond.code ({ cls := "java/lang/StringLatin1", name := "indexOf", desc := "([B[B)I" } : Jvm.MethodName) jdk_43_method_24_code (2 : Nat) (Option.some Jvm.ClassFile.FieldType.int)).before args0 about1 = true := code_word (m := ⟨8, 5⟩) (meth := k8m5) (c := k8c5) (by decide +kernel) rfl rfl rfl (by decide +kernel)
set_option maxRecDepth 65536 in
theorem w_c18 : (Jvm.Cond.code ({ cls := "java/lang/StringLatin1", name := "indexOf", desc := "([BI[BII)I" } : Jvm.MethodName) jdk_43_method_25_code (11 : Nat) (Option.some Jvm.ClassFile.FieldType.int)).before args0 about1 = true := code_word (m := ⟨8, 6⟩) (meth := k8m6) (c := k8c6) (by decide +kernel) rfl rfl rfl (by decide +kernel)
set_option maxRecDepth 65536 in
theorem w_c19 : (Jvm.Cond.code ({ cls := "java/lang/String", name := "length", desc := "()I" } : Jvm.MethodName) jdk_42_method_54_code (1 : Nat) (Option.some Jvm.ClassFile.FieldType.int)).before args0 about1 = true := code_word (m := ⟨7, 2⟩) (meth := k7m2) (c := k7c2) (by decide +kernel) rfl rfl rfl (by decide +kernel)
set_option maxRecDepth 65536 in
theorem w_c20 : (Jvm.Cond.code ({ cls := "java/lang/String", name := "indexOf", desc := "(II)I" } : Jvm.MethodName) jdk_42_method_80_code (3 : Nat) (Option.some Jvm.ClassFile.FieldType.int)).before args0 about1 = true := code_word (m := ⟨7, 4⟩) (meth := k7m4) (c := k7c4) (by decide +kernel) rfl rfl rfl (by decide +kernel)
set_option maxRecDepth 65536 in
theorem w_c21 : (Jvm.Cond.code ({ cls := "java/lang/StringLatin1", name := "indexOf", desc := "([BIII)I" } : Jvm.MethodName) jdk_43_method_22_code (4 : Nat) (Option.some Jvm.ClassFile.FieldType.int)).before args0 about1 = true := code_word (m := ⟨8, 3⟩) (meth := k8m3) (c := k8c3) (by decide +kernel) rfl rfl rfl (by decide +kernel)
set_option maxRecDepth 65536 in
theorem w_c22 : (Jvm.Cond.code ({ cls := "java/lang/StringLatin1", name := "canEncode", desc := "(I)Z" } : Jvm.MethodName) jdk_43_method_4_code (1 : Nat) (Option.some Jvm.ClassFile.FieldType.boolean)).before args0 about1 = true := code_word (m := ⟨8, 2⟩) (meth := k8m2) (c := k8c2) (by decide +kernel) rfl rfl rfl (by decide +kernel)
set_option maxRecDepth 65536 in
theorem w_c23 : (Jvm.Cond.code ({ cls := "java/lang/Math", name := "max", desc := "(II)I" } : Jvm.MethodName) jdk_29_method_65_code (2 : Nat) (Option.some Jvm.ClassFile.FieldType.int)).before args0 about1 = true := code_word (m := ⟨12, 1⟩) (meth := k12m1) (c := k12c1) (by decide +kernel) rfl rfl rfl (by decide +kernel)
set_option maxRecDepth 65536 in
theorem w_c24 : (Jvm.Cond.code ({ cls := "java/lang/Math", name := "min", desc := "(II)I" } : Jvm.MethodName) jdk_29_method_69_code (2 : Nat) (Option.some Jvm.ClassFile.FieldType.int)).before args0 about1 = true := code_word (m := ⟨12, 2⟩) (meth := k12m2) (c := k12c2) (by decide +kernel) rfl rfl rfl (by decide +kernel)
set_option maxRecDepth 65536 in
theorem w_c25 : (Jvm.Cond.code ({ cls := "java/lang/StringLatin1", name := "indexOfChar", desc := "([BIII)I" } : Jvm.MethodName) jdk_43_method_23_code (6 : Nat) (Option.some Jvm.ClassFile.FieldType.int)).before args0 about1 = true := code_word (m := ⟨8, 4⟩) (meth := k8m4) (c := k8c4) (by decide +kernel) rfl rfl rfl (by decide +kernel)
set_option maxRecDepth 65536 in
theorem w_c26 : (Jvm.Cond.code ({ cls := "java/lang/String", name := "substring", desc := "(II)Ljava/lang/String;" } : Jvm.MethodName) jdk_42_method_92_code (5 : Nat) (Option.some (Jvm.ClassFile.FieldType.object "java/lang/String"))).before args0 about1 = true := code_word (m := ⟨7, 6⟩) (meth := k7m6) (c := k7c6) (by decide +kernel) rfl rfl rfl (by decide +kernel)
set_option maxRecDepth 65536 in
theorem w_c27 : (Jvm.Cond.code ({ cls := "java/lang/String", name := "checkBoundsBeginEnd", desc := "(III)V" } : Jvm.MethodName) jdk_42_method_158_code (3 : Nat) (Option.none : Option Jvm.ClassFile.FieldType)).before args0 about1 = true := code_word (m := ⟨7, 12⟩) (meth := k7m12) (c := k7c12) (by decide +kernel) rfl rfl rfl (by decide +kernel)
set_option maxRecDepth 65536 in
theorem w_c28 : (Jvm.Cond.code ({ cls := "jdk/internal/util/Preconditions", name := "checkFromToIndex", desc := "(IIILjava/util/function/BiFunction;)I" } : Jvm.MethodName) jdk_41_method_12_code (4 : Nat) (Option.some Jvm.ClassFile.FieldType.int)).before args0 about1 = true := code_word (m := ⟨9, 2⟩) (meth := k9m2) (c := k9c2) (by decide +kernel) rfl rfl rfl (by decide +kernel)
set_option maxRecDepth 65536 in
theorem w_c29 : (Jvm.Cond.code ({ cls := "java/lang/StringLatin1", name := "newString", desc := "([BII)Ljava/lang/String;" } : Jvm.MethodName) jdk_43_method_47_code (3 : Nat) (Option.some (Jvm.ClassFile.FieldType.object "java/lang/String"))).before args0 about1 = true := code_word (m := ⟨8, 7⟩) (meth := k8m7) (c := k8c7) (by decide +kernel) rfl rfl rfl (by decide +kernel)
set_option maxRecDepth 65536 in
theorem w_c30 : (Jvm.Cond.code ({ cls := "java/util/Arrays", name := "copyOfRange", desc := "([BII)[B" } : Jvm.MethodName) jdk_65_method_132_code (3 : Nat) (Option.some (Jvm.ClassFile.FieldType.array Jvm.ClassFile.FieldType.byte))).before args0 about1 = true := code_word (m := ⟨13, 2⟩) (meth := k13m2) (c := k13c2) (by decide +kernel) rfl rfl rfl (by decide +kernel)
set_option maxRecDepth 65536 in
theorem w_c31 : (Jvm.Cond.code ({ cls := "java/util/Arrays", name := "copyOfRangeByte", desc := "([BII)[B" } : Jvm.MethodName) jdk_65_method_133_code (5 : Nat) (Option.some (Jvm.ClassFile.FieldType.array Jvm.ClassFile.FieldType.byte))).before args0 about1 = true := code_word (m := ⟨13, 3⟩) (meth := k13m3) (c := k13c3) (by decide +kernel) rfl rfl rfl (by decide +kernel)
set_option maxRecDepth 65536 in
theorem w_c32 : (Jvm.Cond.code ({ cls := "java/util/Arrays", name := "checkLength", desc := "(II)V" } : Jvm.MethodName) jdk_65_method_131_code (2 : Nat) (Option.none : Option Jvm.ClassFile.FieldType)).before args0 about1 = true := code_word (m := ⟨13, 1⟩) (meth := k13m1) (c := k13c1) (by decide +kernel) rfl rfl rfl (by decide +kernel)
set_option maxRecDepth 65536 in
theorem w_c33 : (Jvm.Cond.code ({ cls := "java/lang/String", name := "<init>", desc := "([BB)V" } : Jvm.MethodName) jdk_42_method_151_code (3 : Nat) (Option.none : Option Jvm.ClassFile.FieldType)).before args0 about1 = true := code_word (m := ⟨7, 8⟩) (meth := k7m8) (c := k7c8) (by decide +kernel) rfl rfl rfl (by decide +kernel)
set_option maxRecDepth 65536 in
theorem w_c34 : (Jvm.Cond.code ({ cls := "com/example/lean_crawler/leancrawler/url/UrlNormalizerPathPinLaw", name := "same", desc := "(Ljava/lang/String;[CII)Z" } : Jvm.MethodName) method_3_code (4 : Nat) (Option.some Jvm.ClassFile.FieldType.boolean)).before args0 about1 = true := code_word (m := ⟨1, 2⟩) (meth := k1m2) (c := k1c2) (by decide +kernel) rfl rfl rfl (by decide +kernel)
def codes1 : List Jvm.Cond := [Jvm.Cond.code x code maxLocals ret, Jvm.Cond.code ({ cls := "com/example/lean_crawler/leancrawler/url/UrlNormalizerPathPinLaw", name := "at", desc := "(IIIIIJ)C" } : Jvm.MethodName) method_2_code (8 : Nat) (Option.some Jvm.ClassFile.FieldType.char), Jvm.Cond.code ({ cls := "java/lang/String", name := "charAt", desc := "(I)C" } : Jvm.MethodName) jdk_42_method_56_code (2 : Nat) (Option.some Jvm.ClassFile.FieldType.char), Jvm.Cond.code ({ cls := "java/lang/String", name := "isLatin1", desc := "()Z" } : Jvm.MethodName) jdk_42_method_154_code (1 : Nat) (Option.some Jvm.ClassFile.FieldType.boolean), Jvm.Cond.code ({ cls := "java/lang/StringLatin1", name := "charAt", desc := "([BI)C" } : Jvm.MethodName) jdk_43_method_2_code (2 : Nat) (Option.some Jvm.ClassFile.FieldType.char), Jvm.Cond.code ({ cls := "java/lang/String", name := "checkIndex", desc := "(II)V" } : Jvm.MethodName) jdk_42_method_155_code (2 : Nat) (Option.none : Option Jvm.ClassFile.FieldType), Jvm.Cond.code ({ cls := "jdk/internal/util/Preconditions", name := "checkIndex", desc := "(IILjava/util/function/BiFunction;)I" } : Jvm.MethodName) jdk_41_method_11_code (3 : Nat) (Option.some Jvm.ClassFile.FieldType.int), Jvm.Cond.code ({ cls := "java/lang/String", name := "<init>", desc := "([C)V" } : Jvm.MethodName) jdk_42_method_3_code (2 : Nat) (Option.none : Option Jvm.ClassFile.FieldType), Jvm.Cond.code ({ cls := "java/lang/String", name := "<init>", desc := "([CIILjava/lang/Void;)V" } : Jvm.MethodName) jdk_42_method_149_code (6 : Nat) (Option.none : Option Jvm.ClassFile.FieldType), Jvm.Cond.code ({ cls := "java/lang/Object", name := "<init>", desc := "()V" } : Jvm.MethodName) object_method_1_code (1 : Nat) (Option.none : Option Jvm.ClassFile.FieldType), Jvm.Cond.code ({ cls := "java/lang/StringUTF16", name := "compress", desc := "([CII)[B" } : Jvm.MethodName) jdk_52_method_16_code (6 : Nat) (Option.some (Jvm.ClassFile.FieldType.array Jvm.ClassFile.FieldType.byte)), Jvm.Cond.code ({ cls := "java/lang/StringUTF16", name := "compress", desc := "([CI[BII)I" } : Jvm.MethodName) jdk_52_method_21_code (7 : Nat) (Option.some Jvm.ClassFile.FieldType.int), Jvm.Cond.code ({ cls := "java/lang/StringUTF16", name := "coderFromArrayLen", desc := "([BI)B" } : Jvm.MethodName) jdk_52_method_15_code (2 : Nat) (Option.some Jvm.ClassFile.FieldType.byte), Jvm.Cond.code ({ cls := "com/example/lean_crawler/leancrawler/url/UrlNormalizer", name := "path", desc := "(Ljava/lang/String;)Ljava/lang/String;" } : Jvm.MethodName) prog_15_method_4_code (3 : Nat) (Option.some (Jvm.ClassFile.FieldType.object "java/lang/String")), Jvm.Cond.code ({ cls := "com/example/lean_crawler/leancrawler/url/UrlNormalizer", name := "pathStart", desc := "(Ljava/lang/String;)I" } : Jvm.MethodName) prog_15_method_6_code (2 : Nat) (Option.some Jvm.ClassFile.FieldType.int), Jvm.Cond.code ({ cls := "java/lang/String", name := "indexOf", desc := "(Ljava/lang/String;)I" } : Jvm.MethodName) jdk_42_method_84_code (3 : Nat) (Option.some Jvm.ClassFile.FieldType.int), Jvm.Cond.code ({ cls := "java/lang/String", name := "coder", desc := "()B" } : Jvm.MethodName) jdk_42_method_152_code (1 : Nat) (Option.some Jvm.ClassFile.FieldType.byte), Jvm.Cond.code ({ cls := "java/lang/StringLatin1", name := "indexOf", desc := "([B[B)I" } : Jvm.MethodName) jdk_43_method_24_code (2 : Nat) (Option.some Jvm.ClassFile.FieldType.int), Jvm.Cond.code ({ cls := "java/lang/StringLatin1", name := "indexOf", desc := "([BI[BII)I" } : Jvm.MethodName) jdk_43_method_25_code (11 : Nat) (Option.some Jvm.ClassFile.FieldType.int), Jvm.Cond.code ({ cls := "java/lang/String", name := "length", desc := "()I" } : Jvm.MethodName) jdk_42_method_54_code (1 : Nat) (Option.some Jvm.ClassFile.FieldType.int), Jvm.Cond.code ({ cls := "java/lang/String", name := "indexOf", desc := "(II)I" } : Jvm.MethodName) jdk_42_method_80_code (3 : Nat) (Option.some Jvm.ClassFile.FieldType.int), Jvm.Cond.code ({ cls := "java/lang/StringLatin1", name := "indexOf", desc := "([BIII)I" } : Jvm.MethodName) jdk_43_method_22_code (4 : Nat) (Option.some Jvm.ClassFile.FieldType.int), Jvm.Cond.code ({ cls := "java/lang/StringLatin1", name := "canEncode", desc := "(I)Z" } : Jvm.MethodName) jdk_43_method_4_code (1 : Nat) (Option.some Jvm.ClassFile.FieldType.boolean), Jvm.Cond.code ({ cls := "java/lang/Math", name := "max", desc := "(II)I" } : Jvm.MethodName) jdk_29_method_65_code (2 : Nat) (Option.some Jvm.ClassFile.FieldType.int), Jvm.Cond.code ({ cls := "java/lang/Math", name := "min", desc := "(II)I" } : Jvm.MethodName) jdk_29_method_69_code (2 : Nat) (Option.some Jvm.ClassFile.FieldType.int), Jvm.Cond.code ({ cls := "java/lang/StringLatin1", name := "indexOfChar", desc := "([BIII)I" } : Jvm.MethodName) jdk_43_method_23_code (6 : Nat) (Option.some Jvm.ClassFile.FieldType.int), Jvm.Cond.code ({ cls := "java/lang/String", name := "substring", desc := "(II)Ljava/lang/String;" } : Jvm.MethodName) jdk_42_method_92_code (5 : Nat) (Option.some (Jvm.ClassFile.FieldType.object "java/lang/String")), Jvm.Cond.code ({ cls := "java/lang/String", name := "checkBoundsBeginEnd", desc := "(III)V" } : Jvm.MethodName) jdk_42_method_158_code (3 : Nat) (Option.none : Option Jvm.ClassFile.FieldType), Jvm.Cond.code ({ cls := "jdk/internal/util/Preconditions", name := "checkFromToIndex", desc := "(IIILjava/util/function/BiFunction;)I" } : Jvm.MethodName) jdk_41_method_12_code (4 : Nat) (Option.some Jvm.ClassFile.FieldType.int), Jvm.Cond.code ({ cls := "java/lang/StringLatin1", name := "newString", desc := "([BII)Ljava/lang/String;" } : Jvm.MethodName) jdk_43_method_47_code (3 : Nat) (Option.some (Jvm.ClassFile.FieldType.object "java/lang/String")), Jvm.Cond.code ({ cls := "java/util/Arrays", name := "copyOfRange", desc := "([BII)[B" } : Jvm.MethodName) jdk_65_method_132_code (3 : Nat) (Option.some (Jvm.ClassFile.FieldType.array Jvm.ClassFile.FieldType.byte)), Jvm.Cond.code ({ cls := "java/util/Arrays", name := "copyOfRangeByte", desc := "([BII)[B" } : Jvm.MethodName) jdk_65_method_133_code (5 : Nat) (Option.some (Jvm.ClassFile.FieldType.array Jvm.ClassFile.FieldType.byte)), Jvm.Cond.code ({ cls := "java/util/Arrays", name := "checkLength", desc := "(II)V" } : Jvm.MethodName) jdk_65_method_131_code (2 : Nat) (Option.none : Option Jvm.ClassFile.FieldType), Jvm.Cond.code ({ cls := "java/lang/String", name := "<init>", desc := "([BB)V" } : Jvm.MethodName) jdk_42_method_151_code (3 : Nat) (Option.none : Option Jvm.ClassFile.FieldType), Jvm.Cond.code ({ cls := "com/example/lean_crawler/leancrawler/url/UrlNormalizerPathPinLaw", name := "same", desc := "(Ljava/lang/String;[CII)Z" } : Jvm.MethodName) method_3_code (4 : Nat) (Option.some Jvm.ClassFile.FieldType.boolean)]
set_option maxRecDepth 65536 in
theorem codes_eq : words1.filter isCode = codes1 := rfl
theorem w_codes : ∀ c ∈ words1.filter isCode, c.before args0 about1 = true := by
  rw [codes_eq]
  intro c hc
  simp only [codes1, List.mem_cons, List.not_mem_nil, or_false] at hc
  rcases hc with rfl | rfl | rfl | rfl | rfl | rfl | rfl | rfl | rfl | rfl | rfl | rfl | rfl | rfl | rfl | rfl | rfl | rfl | rfl | rfl | rfl | rfl | rfl | rfl | rfl | rfl | rfl | rfl | rfl | rfl | rfl | rfl | rfl | rfl | rfl
  · exact w_c0
  · exact w_c1
  · exact w_c2
  · exact w_c3
  · exact w_c4
  · exact w_c5
  · exact w_c6
  · exact w_c7
  · exact w_c8
  · exact w_c9
  · exact w_c10
  · exact w_c11
  · exact w_c12
  · exact w_c13
  · exact w_c14
  · exact w_c15
  · exact w_c16
  · exact w_c17
  · exact w_c18
  · exact w_c19
  · exact w_c20
  · exact w_c21
  · exact w_c22
  · exact w_c23
  · exact w_c24
  · exact w_c25
  · exact w_c26
  · exact w_c27
  · exact w_c28
  · exact w_c29
  · exact w_c30
  · exact w_c31
  · exact w_c32
  · exact w_c33
  · exact w_c34
set_option maxRecDepth 65536 in
theorem w_t1 : (words1.take 24).all (fun c => isCode c || c.before args0 about1) = true := by decide +kernel
set_option maxRecDepth 65536 in
theorem w_t2 : ((words1.drop 24).take 24).all (fun c => isCode c || c.before args0 about1) = true := by decide +kernel
set_option maxRecDepth 65536 in
theorem w_t3 : (((words1.drop 24).drop 24).take 24).all (fun c => isCode c || c.before args0 about1) = true := by decide +kernel
set_option maxRecDepth 65536 in
theorem w_t4 : ((((words1.drop 24).drop 24).drop 24).take 24).all (fun c => isCode c || c.before args0 about1) = true := by decide +kernel
set_option maxRecDepth 65536 in
theorem w_t5 : (((((words1.drop 24).drop 24).drop 24).drop 24).take 24).all (fun c => isCode c || c.before args0 about1) = true := by decide +kernel
set_option maxRecDepth 65536 in
theorem w_t6 : ((((((words1.drop 24).drop 24).drop 24).drop 24).drop 24).take 24).all (fun c => isCode c || c.before args0 about1) = true := by decide +kernel
set_option maxRecDepth 65536 in
theorem w_t7 : ((((((words1.drop 24).drop 24).drop 24).drop 24).drop 24).drop 24).all (fun c => isCode c || c.before args0 about1) = true := by decide +kernel
theorem w_tables : (allAtoms (Jvm.Cond.code x code maxLocals ret :: tables_1)).before args0 about1 = true := by
  rw [allAtoms_all]
  show words1.all (fun c => c.before args0 about1) = true
  refine all_split ?_ w_codes
  rw [← List.take_append_drop 24 words1, List.all_append, w_t1, ← List.take_append_drop 24 (words1.drop 24), List.all_append, w_t2, ← List.take_append_drop 24 ((words1.drop 24).drop 24), List.all_append, w_t3, ← List.take_append_drop 24 (((words1.drop 24).drop 24).drop 24), List.all_append, w_t4, ← List.take_append_drop 24 ((((words1.drop 24).drop 24).drop 24).drop 24), List.all_append, w_t5, ← List.take_append_drop 24 (((((words1.drop 24).drop 24).drop 24).drop 24).drop 24), List.all_append, w_t6, w_t7]
  rfl
set_option maxRecDepth 65536 in
theorem w_rest : rest_1_c.before args0 about1 = true := by decide +kernel
set_option maxRecDepth 65536 in
theorem w_case : (Jvm.Cond.and given_1 narrow_1).before args0 about1 = true := by decide +kernel
set_option maxRecDepth 65536 in
theorem w_consts : constsHeld consts_1 about1 := Jvm.Lit.constsHeldB_iff.mp (by decide +kernel)
theorem w_applies : (headSpec (Jvm.Cond.code x code maxLocals ret :: tables_1) room_1).applies x e0.platform about1 = true :=
  (Spec.applies_iff w_frames).mpr ⟨w_running, w_runnable, w_alone, w_named, w_hears, w_ripe, w_room, w_tables⟩
theorem atStart : AtStart classFile x code maxLocals ret World_1 tables_1 room_1 Calls_1 rest_1 Pre_1 launch0 p0 e0 about1 theMethod args0 below0 :=
  ⟨lists_1, trivial, launch0.admits_env _ _ _, launch0.least_env, fairChoices_fair.cas, fairChoices_fair.clock, w_frames, w_args, w_heap, w_applies, ⟨w_consts, trivial⟩, w_rest, w_case⟩
end start1
theorem witness_1 : WitnessClaimed_1 := ⟨start1.p0, start1.e0, start1.about1, start1.theMethod, start1.args0, start1.below0, start1.atStart⟩
end Jvm.Pilot.@@N@@
