import JvmDerived
import JvmDerived.Pilot.@@N@@Statement
import JvmDerived.Pilot.@@N@@Code
set_option linter.unusedVariables false
set_option linter.unusedSimpArgs false
@@BLOCK:NumsL.lean.txt@@
namespace Jvm.Pilot.@@N@@
open Jvm Jvm.ClassFile Sem Op Lib Jvm.Free Jvm.Stand Jvm.LawKit Jvm.RoadKit Bundle Jvm.Pilot.@@N@@.Jvm.D
/-! A. runs that leave the heap as it is, from frame to frame -/
section OwnGo
variable {p : Program} {l : Launch} {e : Env} {R : Room} {s : State} {m : MethodId} {args : Array Value} {below : List Frame} {meth : Method} {c : Code} {locs : List Loc} {cells slots : Nat} {h : Heap}
def own_Go (p : Program) (l : Launch) (e : Env) (R : Room) (s : State) (m : MethodId) (args : Array Value) (below : List Frame) (meth : Method) (c : Code) (locs : List Loc) (cells slots : Nat) (h : Heap) (g g' : JFrame) : Prop :=
  ∀ T : State, Stand p l e R s m args below meth c T locs cells slots → T.heap = h → ∃ T' : State, Stand p l e R s m args below meth c T' locs cells slots ∧ T'.heap = h ∧ ∀ t, Steps p.tables e below (T'.setTop g') t → Steps p.tables e below (T.setTop g) t
theorem own_refl (g : JFrame) : own_Go p l e R s m args below meth c locs cells slots h g g := fun T X eT => ⟨T, X, eT, fun _ k => k⟩
theorem own_trans {g g' g'' : JFrame} (A : own_Go p l e R s m args below meth c locs cells slots h g g') (B : own_Go p l e R s m args below meth c locs cells slots h g' g'') : own_Go p l e R s m args below meth c locs cells slots h g g'' := fun T X eT => by
  obtain ⟨T1, X1, e1, k1⟩ := A T X eT
  obtain ⟨T2, X2, e2, k2⟩ := B T1 X1 e1
  exact ⟨T2, X2, e2, fun t k => k1 t (k2 t k)⟩
theorem own_of {g g' : JFrame} (H : ∀ T : State, Stand p l e R s m args below meth c T locs cells slots → ∀ t, Steps p.tables e below (T.setTop g') t → Steps p.tables e below (T.setTop g) t) : own_Go p l e R s m args below meth c locs cells slots h g g' := fun T X eT => ⟨T, X, eT, H T X⟩

/-! B. frames whose references are numbers of a list of addresses -/
abbrev own_F := Nat × List Slot × List Value
/-- the addresses, and the ints that aren't known: '.retAddr k' stands for the k-th of these -/
abbrev own_N := (Nat → Addr) × (Nat → Int32)
def own_v (σ : own_N) : Value → Value
  | .ref k => .ref (σ.1 k)
  | .int v => .int v
  | .long v => .long v
  | .float v => .float v
  | .double v => .double v
  | .null => .null
  | .retAddr k => .int (σ.2 k)
def own_s (σ : own_N) : Slot → Slot
  | .val v => .val (own_v σ v)
  | .unset => .unset
  | .second => .second
def own_f (σ : own_N) (m : MethodId) (F : own_F) : JFrame := mkF m F.1 (F.2.1.map (own_s σ)).toArray (F.2.2.map (own_v σ))
theorem own_v_cat (σ : own_N) (v : Value) : (own_v σ v).category = v.category := by cases v <;> rfl
theorem own_v_ref (σ : own_N) (v : Value) : (own_v σ v).isRef = v.isRef := by cases v <;> rfl
theorem own_at_l (σ : own_N) (m : MethodId) (F : own_F) (k : Nat) {x : Slot} (hk : F.2.1[k]? = some x) : (own_f σ m F).locals[k]? = some (own_s σ x) := by
  show (F.2.1.map (own_s σ)).toArray[k]? = _
  rw [List.getElem?_toArray, List.getElem?_map, hk]; rfl
theorem own_set_l (σ : own_N) (L : List Slot) (k : Nat) (v : Value) : (L.map (own_s σ)).toArray.setIfInBounds k (.val (own_v σ v)) = ((L.set k (.val v)).map (own_s σ)).toArray := by
  rw [List.setIfInBounds_toArray, List.map_set]; rfl

def own_isI : Value → Bool
  | .int _ => true
  | .retAddr _ => true
  | _ => false
theorem own_isI_spec (σ : own_N) {v : Value} (h : own_isI v = true) : ∃ z, own_v σ v = .int z := by
  cases v <;> first | exact ⟨_, rfl⟩ | cases h
def own_geti (L : List Slot) (k : Nat) : Option Value := match L[k]? with
  | some (.val v) => if own_isI v = true then some v else none
  | _ => none
theorem own_geti_spec {L : List Slot} {k : Nat} {v : Value} (h : own_geti L k = some v) : L[k]? = some (.val v) ∧ own_isI v = true := by
  unfold own_geti at h
  split at h
  · rename_i hq
    split at h
    · rename_i hr; cases h; exact ⟨hq, hr⟩
    · cases h
  · cases h
def own_getr (L : List Slot) (k : Nat) : Option Value := match L[k]? with
  | some (.val v) => if v.isRef = true then some v else none
  | _ => none
theorem own_getr_spec {L : List Slot} {k : Nat} {v : Value} (h : own_getr L k = some v) : L[k]? = some (.val v) ∧ v.isRef = true := by
  unfold own_getr at h
  split at h
  · rename_i hq
    split at h
    · rename_i hr; cases h; exact ⟨hq, hr⟩
    · cases h
  · cases h
def own_one : Slot → Bool
  | .unset => true
  | .val w => w.category == 1
  | .second => false
def own_put (L : List Slot) (k : Nat) (v : Value) : Option (List Slot) := match L[k]? with
  | some x => if own_one x = true then some (L.set k (.val v)) else none
  | none => none
theorem own_put_spec {L L' : List Slot} {k : Nat} {v : Value} (h : own_put L k v = some L') : L' = L.set k (.val v) ∧ ∃ x, L[k]? = some x ∧ own_one x = true := by
  unfold own_put at h
  split at h
  · rename_i x hq
    split at h
    · rename_i hr; cases h; exact ⟨rfl, x, hq, hr⟩
    · cases h
  · cases h
theorem own_one_spec (σ : own_N) {x : Slot} (h : own_one x = true) : own_s σ x = .unset ∨ ∃ w, own_s σ x = .val w ∧ w.category = 1 := by
  cases x with
  | unset => exact Or.inl rfl
  | second => cases h
  | val w => exact Or.inr ⟨own_v σ w, rfl, (own_v_cat σ w).trans (beq_iff_eq.mp h)⟩
def own_p1 : List Value → Option (Int32 × List Value)
  | .int x :: r => some (x, r)
  | _ => none
theorem own_p1_spec {S : List Value} {q : Int32 × List Value} (h : own_p1 S = some q) : S = .int q.1 :: q.2 := by
  unfold own_p1 at h
  split at h
  · cases h; rfl
  · cases h
def own_pi : List Value → Option (Value × List Value)
  | x :: r => if own_isI x = true then some (x, r) else none
  | [] => none
theorem own_pi_spec {S : List Value} {q : Value × List Value} (h : own_pi S = some q) : S = q.1 :: q.2 ∧ own_isI q.1 = true := by
  unfold own_pi at h
  split at h
  · split at h
    · rename_i hr; cases h; exact ⟨rfl, hr⟩
    · cases h
  · cases h
def own_pd : List Value → Option (Value × List Value)
  | x :: r => if x.category = 1 then some (x, r) else none
  | [] => none
theorem own_pd_spec {S : List Value} {q : Value × List Value} (h : own_pd S = some q) : S = q.1 :: q.2 ∧ q.1.category = 1 := by
  unfold own_pd at h
  split at h
  · split at h
    · rename_i hr; cases h; exact ⟨rfl, hr⟩
    · cases h
  · cases h
def own_p2 : List Value → Option (Int32 × Int32 × List Value)
  | .int y :: .int x :: r => some (x, y, r)
  | _ => none
theorem own_p2_spec {S : List Value} {q : Int32 × Int32 × List Value} (h : own_p2 S = some q) : S = .int q.2.1 :: .int q.1 :: q.2.2 := by
  unfold own_p2 at h
  split at h
  · cases h; rfl
  · cases h
def own_pr : List Value → Option (Value × List Value)
  | x :: r => if x.isRef = true then some (x, r) else none
  | [] => none
theorem own_pr_spec {S : List Value} {q : Value × List Value} (h : own_pr S = some q) : S = q.1 :: q.2 ∧ q.1.isRef = true := by
  unfold own_pr at h
  split at h
  · split at h
    · rename_i hr; cases h; exact ⟨rfl, hr⟩
    · cases h
  · cases h
def own_same (n : Nat) : Value → Value → Option Bool
  | .null, .null => some true
  | .null, .ref _ => some false
  | .ref _, .null => some false
  | .ref a, .ref b => if a = b then some true else if a < n ∧ b < n then some false else none
  | _, _ => none
def own_inj (σ : own_N) (n : Nat) : Prop := ∀ a b, a < n → b < n → σ.1 a = σ.1 b → a = b
theorem own_same_spec {σ : own_N} {n : Nat} (hi : own_inj σ n) {x y : Value} {b : Bool} (h : own_same n x y = some b) : x.isRef = true ∧ y.isRef = true ∧ decide (own_v σ x = own_v σ y) = b := by
  unfold own_same at h
  split at h
  · cases h; exact ⟨rfl, rfl, by simp [own_v]⟩
  · cases h; exact ⟨rfl, rfl, by simp [own_v]⟩
  · cases h; exact ⟨rfl, rfl, by simp [own_v]⟩
  · split at h
    · rename_i hq; cases h; subst hq; exact ⟨rfl, rfl, by simp⟩
    · split at h
      · rename_i hq hr
        cases h
        exact ⟨rfl, rfl, decide_eq_false fun q => hq (hi _ _ hr.1 hr.2 (Value.ref.inj q))⟩
      · cases h
  · cases h
def own_popq (n : Nat) : List Value → Option (Bool × List Value)
  | y :: x :: r => (own_same n x y).map fun b => (b, r)
  | _ => none
theorem own_popq_spec {σ : own_N} {n : Nat} (hi : own_inj σ n) {S : List Value} {q : Bool × List Value} (h : own_popq n S = some q) : ∃ x y, S = y :: x :: q.2 ∧ x.isRef = true ∧ y.isRef = true ∧ decide (own_v σ x = own_v σ y) = q.1 := by
  unfold own_popq at h
  split at h
  · obtain ⟨b, hb, rfl⟩ := Option.map_eq_some_iff.mp h
    obtain ⟨h1, h2, h3⟩ := own_same_spec hi hb
    exact ⟨_, _, rfl, h1, h2, h3⟩
  · cases h
def own_nul : List Value → Option (Bool × List Value)
  | .null :: r => some (true, r)
  | .ref _ :: r => some (false, r)
  | _ => none
def own_jump (pc : Nat) (o : Int) (L : List Slot) (S : List Value) : Option own_F := if 0 ≤ (pc : Int) + o then some (((pc : Int) + o).toNat, L, S) else none
theorem own_jump_spec {pc : Nat} {o : Int} {L : List Slot} {S : List Value} {F : own_F} (h : own_jump pc o L S = some F) : 0 ≤ (pc : Int) + o ∧ F = (((pc : Int) + o).toNat, L, S) := by
  unfold own_jump at h
  split at h
  · rename_i hq; cases h; exact ⟨hq, rfl⟩
  · cases h

/-! C. one step of the plain instructions -/
def own_step (n pc : Nat) (L : List Slot) (S : List Value) : Instr × Nat → Option own_F
  | (.iload_n k, 1) => (own_geti L k.val).map fun v => (pc + 1, L, v :: S)
  | (.iload k, 2) => (own_geti L k).map fun v => (pc + 2, L, v :: S)
  | (.aload_n k, 1) => (own_getr L k.val).map fun v => (pc + 1, L, v :: S)
  | (.aload k, 2) => (own_getr L k).map fun v => (pc + 2, L, v :: S)
  | (.istore_n k, 1) => (own_pi S).bind fun q => (own_put L k.val q.1).map fun L' => (pc + 1, L', q.2)
  | (.istore k, 2) => (own_pi S).bind fun q => (own_put L k q.1).map fun L' => (pc + 2, L', q.2)
  | (.astore_n k, 1) => (own_pr S).bind fun q => (own_put L k.val q.1).map fun L' => (pc + 1, L', q.2)
  | (.astore k, 2) => (own_pr S).bind fun q => (own_put L k q.1).map fun L' => (pc + 2, L', q.2)
  | (.iconst i, 1) => some (pc + 1, L, .int (Int32.ofInt i) :: S)
  | (.bipush i, 2) => some (pc + 2, L, .int (Int8.ofInt i).toInt32 :: S)
  | (.sipush i, 3) => some (pc + 3, L, .int (Int16.ofInt i).toInt32 :: S)
  | (.aconst_null, 1) => some (pc + 1, L, .null :: S)
  | (.iadd, 1) => (own_p2 S).map fun q => (pc + 1, L, .int (q.1 + q.2.1) :: q.2.2)
  | (.isub, 1) => (own_p2 S).map fun q => (pc + 1, L, .int (q.1 - q.2.1) :: q.2.2)
  | (.imul, 1) => (own_p2 S).map fun q => (pc + 1, L, .int (q.1 * q.2.1) :: q.2.2)
  | (.iand, 1) => (own_p2 S).map fun q => (pc + 1, L, .int (q.1 &&& q.2.1) :: q.2.2)
  | (.irem, 1) => (own_p2 S).bind fun q => if q.2.1 = 0 then none else some (pc + 1, L, .int (q.1 % q.2.1) :: q.2.2)
  | (.ior, 1) => (own_p2 S).map fun q => (pc + 1, L, .int (q.1 ||| q.2.1) :: q.2.2)
  | (.ishl, 1) => (own_p2 S).map fun q => (pc + 1, L, .int ((q.1 : Int32) <<< ((q.2.1 : Int32) &&& (31 : Int32))) :: q.2.2)
  | (.dup, 1) => (own_pd S).map fun q => (pc + 1, L, q.1 :: q.1 :: q.2)
  | (.i2s, 1) => (own_p1 S).map fun q => (pc + 1, L, .int q.1.toInt16.toInt32 :: q.2)
  | (.iinc k i, 3) => (own_geti L k).bind fun w => (own_p1 [w]).bind fun v => (own_put L k (.int (v.1 + Int32.ofInt i))).map fun L' => (pc + 3, L', S)
  | (.goto o, 3) => own_jump pc o L S
  | (.ifCond cd o, 3) => (own_p1 S).bind fun q => if ifCond.holds cd q.1 = true then own_jump pc o L q.2 else some (pc + 3, L, q.2)
  | (.if_icmp cd o, 3) => (own_p2 S).bind fun q => if if_icmp.holds cd q.1 q.2.1 = true then own_jump pc o L q.2.2 else some (pc + 3, L, q.2.2)
  | (.if_acmp cd o, 3) => (own_popq n S).bind fun q => if 0 ≤ (pc : Int) + o then some ((if acV cd q.1 = true then ((pc : Int) + o).toNat else pc + 3), L, q.2) else none
  | (.tableswitch df lo hi offs, _) => (own_p1 S).bind fun q => if q.1.toInt < lo ∨ q.1.toInt > hi then own_jump pc df L q.2 else (offs[(q.1.toInt - lo).toNat]?).bind fun o => own_jump pc o L q.2
  | (.ifnull o, 3) => (own_nul S).bind fun q => if q.1 = true then own_jump pc o L q.2 else some (pc + 3, L, q.2)
  | (.ifnonnull o, 3) => (own_nul S).bind fun q => if q.1 = true then some (pc + 3, L, q.2) else own_jump pc o L q.2
  | _ => none
theorem own_step_ok {σ : own_N} {n pc : Nat} {L : List Slot} {S : List Value} {q : Instr × Nat} {F : own_F} (hx : p.tables.exec = Jvm.exec) (hi : own_inj σ n) (hd : decode c.code pc = .ok q) (H : own_step n pc L S q = some F) :
    own_Go p l e R s m args below meth c locs cells slots h (own_f σ m (pc, L, S)) (own_f σ m F) := by
  refine own_of fun T X t kt => ?_
  have hX := X.here
  unfold own_step at H
  split at H
  · obtain ⟨v, hv, rfl⟩ := Option.map_eq_some_iff.mp H
    obtain ⟨hv1, hv2⟩ := own_geti_spec hv
    obtain ⟨z, hz⟩ := own_isI_spec σ hv2
    exact XS.iloadN hX hx rfl hd ((own_at_l σ m (pc, L, S) _ hv1).trans (congrArg (fun w => some (Slot.val w)) hz)) ((congrArg (fun w => Steps p.tables e below (T.setTop (mkF m (pc + 1) (L.map (own_s σ)).toArray (w :: S.map (own_v σ)))) t) hz).mp kt)
  · obtain ⟨v, hv, rfl⟩ := Option.map_eq_some_iff.mp H
    obtain ⟨hv1, hv2⟩ := own_geti_spec hv
    obtain ⟨z, hz⟩ := own_isI_spec σ hv2
    exact XS.iload hX hx rfl hd ((own_at_l σ m (pc, L, S) _ hv1).trans (congrArg (fun w => some (Slot.val w)) hz)) ((congrArg (fun w => Steps p.tables e below (T.setTop (mkF m (pc + 2) (L.map (own_s σ)).toArray (w :: S.map (own_v σ)))) t) hz).mp kt)
  · obtain ⟨v, hv, rfl⟩ := Option.map_eq_some_iff.mp H
    exact XS.aloadN hX hx rfl hd (own_at_l σ m (pc, L, S) _ (own_getr_spec hv).1) ((own_v_ref σ v).trans (own_getr_spec hv).2) kt
  · obtain ⟨v, hv, rfl⟩ := Option.map_eq_some_iff.mp H
    exact XS.aload hX hx rfl hd (own_at_l σ m (pc, L, S) _ (own_getr_spec hv).1) ((own_v_ref σ v).trans (own_getr_spec hv).2) kt
  · replace H := Option.bind_eq_some_iff.mp H
    obtain ⟨q, hq, H⟩ := H
    obtain ⟨L', hL, rfl⟩ := Option.map_eq_some_iff.mp H
    obtain ⟨rfl, x, hx1, hx2⟩ := own_put_spec hL
    obtain ⟨rfl, hr⟩ := own_pi_spec hq
    obtain ⟨z, hz⟩ := own_isI_spec σ hr
    exact XS.istoreN hX hx rfl hd (congrArg (fun w => w :: q.2.map (own_v σ)) hz) (XS.store1 (own_at_l σ m (pc, L, _) _ hx1) (own_one_spec σ hx2) rfl) ((congrArg (fun A => Steps p.tables e below (T.setTop (mkF m (pc + 1) A (q.2.map (own_v σ)))) t) ((congrArg (fun w => (L.map (own_s σ)).toArray.setIfInBounds _ (.val w)) hz.symm).trans (own_set_l σ L _ q.1))).mpr kt)
  · replace H := Option.bind_eq_some_iff.mp H
    obtain ⟨q, hq, H⟩ := H
    obtain ⟨L', hL, rfl⟩ := Option.map_eq_some_iff.mp H
    obtain ⟨rfl, x, hx1, hx2⟩ := own_put_spec hL
    obtain ⟨rfl, hr⟩ := own_pi_spec hq
    obtain ⟨z, hz⟩ := own_isI_spec σ hr
    exact XS.istore hX hx rfl hd (congrArg (fun w => w :: q.2.map (own_v σ)) hz) (XS.store1 (own_at_l σ m (pc, L, _) _ hx1) (own_one_spec σ hx2) rfl) ((congrArg (fun A => Steps p.tables e below (T.setTop (mkF m (pc + 2) A (q.2.map (own_v σ)))) t) ((congrArg (fun w => (L.map (own_s σ)).toArray.setIfInBounds _ (.val w)) hz.symm).trans (own_set_l σ L _ q.1))).mpr kt)
  · replace H := Option.bind_eq_some_iff.mp H
    obtain ⟨q, hq, H⟩ := H
    obtain ⟨L', hL, rfl⟩ := Option.map_eq_some_iff.mp H
    obtain ⟨rfl, x, hx1, hx2⟩ := own_put_spec hL
    obtain ⟨rfl, hr⟩ := own_pr_spec hq
    have hc1 : q.1.category = 1 := by rcases ref_cases hr with hz | ⟨z, hz⟩ <;> rw [hz] <;> rfl
    exact XS.astoreN hX hx rfl hd rfl ((own_v_ref σ q.1).trans hr) (XS.store1 (own_at_l σ m (pc, L, _) _ hx1) (own_one_spec σ hx2) ((own_v_cat σ q.1).trans hc1)) ((congrArg (fun A => Steps p.tables e below (T.setTop (mkF m (pc + 1) A (q.2.map (own_v σ)))) t) (own_set_l σ L _ q.1)).mpr kt)
  · replace H := Option.bind_eq_some_iff.mp H
    obtain ⟨q, hq, H⟩ := H
    obtain ⟨L', hL, rfl⟩ := Option.map_eq_some_iff.mp H
    obtain ⟨rfl, x, hx1, hx2⟩ := own_put_spec hL
    obtain ⟨rfl, hr⟩ := own_pr_spec hq
    have hc1 : q.1.category = 1 := by rcases ref_cases hr with hz | ⟨z, hz⟩ <;> rw [hz] <;> rfl
    exact XS.astore hX hx rfl hd rfl ((own_v_ref σ q.1).trans hr) (XS.store1 (own_at_l σ m (pc, L, _) _ hx1) (own_one_spec σ hx2) ((own_v_cat σ q.1).trans hc1)) ((congrArg (fun A => Steps p.tables e below (T.setTop (mkF m (pc + 2) A (q.2.map (own_v σ)))) t) (own_set_l σ L _ q.1)).mpr kt)
  · cases H; exact XS.iconst hX hx rfl hd kt
  · cases H; exact XS.bipush hX hx rfl hd kt
  · cases H; exact XS.sipush hX hx rfl hd kt
  · cases H; exact XS.aconstNull hX hx rfl hd kt
  · obtain ⟨q, hq, rfl⟩ := Option.map_eq_some_iff.mp H
    obtain rfl := own_p2_spec hq
    exact XS.iadd hX hx rfl hd rfl kt
  · obtain ⟨q, hq, rfl⟩ := Option.map_eq_some_iff.mp H
    obtain rfl := own_p2_spec hq
    exact XS.isub hX hx rfl hd rfl kt
  · obtain ⟨q, hq, rfl⟩ := Option.map_eq_some_iff.mp H
    obtain rfl := own_p2_spec hq
    exact XS.imul hX hx rfl hd rfl kt
  · obtain ⟨q, hq, rfl⟩ := Option.map_eq_some_iff.mp H
    obtain rfl := own_p2_spec hq
    exact XS.iand hX hx rfl hd rfl kt
  · replace H := Option.bind_eq_some_iff.mp H
    obtain ⟨q, hq, H⟩ := H
    obtain rfl := own_p2_spec hq
    split at H
    · cases H
    · rename_i hz; cases H; exact iremM X hx rfl hd rfl hz kt
  · obtain ⟨q, hq, rfl⟩ := Option.map_eq_some_iff.mp H
    obtain rfl := own_p2_spec hq
    exact XS.ior hX hx rfl hd rfl kt
  · obtain ⟨q, hq, rfl⟩ := Option.map_eq_some_iff.mp H
    obtain rfl := own_p2_spec hq
    exact XS.ishl hX hx rfl hd rfl kt
  · obtain ⟨q, hq, rfl⟩ := Option.map_eq_some_iff.mp H
    obtain ⟨rfl, hc1⟩ := own_pd_spec hq
    exact XS.dup hX hx rfl hd rfl ((own_v_cat σ q.1).trans hc1) kt
  · obtain ⟨q, hq, rfl⟩ := Option.map_eq_some_iff.mp H
    obtain rfl := own_p1_spec hq
    exact XS.i2s hX hx rfl hd rfl kt
  · replace H := Option.bind_eq_some_iff.mp H
    obtain ⟨w, hw, H⟩ := H
    replace H := Option.bind_eq_some_iff.mp H
    obtain ⟨v, hv, H⟩ := H
    obtain ⟨L', hL, rfl⟩ := Option.map_eq_some_iff.mp H
    obtain ⟨rfl, x, hx1, hx2⟩ := own_put_spec hL
    obtain ⟨hw1, -⟩ := own_geti_spec hw
    have hwv : w = .int v.1 := (List.cons.inj (own_p1_spec hv)).1
    subst hwv
    exact XS.iinc hX hx rfl hd (own_at_l σ m (pc, L, S) _ hw1) (XS.store1 (own_at_l σ m (pc, L, S) _ hx1) (own_one_spec σ hx2) rfl) ((congrArg (fun A => Steps p.tables e below (T.setTop (mkF m (pc + 3) A (S.map (own_v σ)))) t) (own_set_l σ L _ (.int (v.1 + _)))).mpr kt)
  · obtain ⟨ho, rfl⟩ := own_jump_spec H
    exact XS.goto hX hx rfl (pc0 := pc) rfl hd ho rfl kt
  · replace H := Option.bind_eq_some_iff.mp H
    obtain ⟨q, hq, H⟩ := H
    obtain rfl := own_p1_spec hq
    split at H
    · rename_i hz; obtain ⟨ho, rfl⟩ := own_jump_spec H
      exact XS.ifYes hX hx rfl (pc0 := pc) rfl hd rfl hz ho rfl kt
    · rename_i hz; cases H
      exact XS.ifNo hX hx rfl hd rfl (Bool.eq_false_iff.mpr hz) kt
  · replace H := Option.bind_eq_some_iff.mp H
    obtain ⟨q, hq, H⟩ := H
    obtain rfl := own_p2_spec hq
    split at H
    · rename_i hz; obtain ⟨ho, rfl⟩ := own_jump_spec H
      exact XS.icmpYes hX hx rfl (pc0 := pc) rfl hd rfl hz ho rfl kt
    · rename_i hz; cases H
      exact XS.icmpNo hX hx rfl hd rfl (Bool.eq_false_iff.mpr hz) kt
  · replace H := Option.bind_eq_some_iff.mp H
    obtain ⟨q, hq, H⟩ := H
    obtain ⟨x, y, rfl, h1, h2, h3⟩ := own_popq_spec hi hq
    split at H
    · rename_i ho; cases H
      exact Jvm.RoadKit.acmp X hx rfl ((own_v_ref σ x).trans h1) ((own_v_ref σ y).trans h2) (pc0 := pc) rfl hd rfl h3 ho rfl kt
    · cases H
  · replace H := Option.bind_eq_some_iff.mp H
    obtain ⟨q, hq, H⟩ := H
    obtain rfl := own_p1_spec hq
    split at H
    · rename_i hz; obtain ⟨ho, rfl⟩ := own_jump_spec H
      exact XS.tswOut hX hx rfl (pc0 := pc) rfl hd rfl hz ho rfl kt
    · rename_i hz
      replace H := Option.bind_eq_some_iff.mp H
      obtain ⟨o, hoff, H⟩ := H
      obtain ⟨ho, rfl⟩ := own_jump_spec H
      exact XS.tswIn hX hx rfl (pc0 := pc) rfl hd rfl hz hoff ho rfl kt
  · replace H := Option.bind_eq_some_iff.mp H
    obtain ⟨q, hq, H⟩ := H
    unfold own_nul at hq
    split at hq
    · cases hq
      obtain ⟨ho, rfl⟩ := own_jump_spec H
      exact XS.ifnullYes hX hx rfl (pc0 := pc) rfl hd rfl ho rfl kt
    · cases hq; cases H
      exact XS.ifnullNo hX hx rfl hd rfl kt
    · cases hq
  · replace H := Option.bind_eq_some_iff.mp H
    obtain ⟨q, hq, H⟩ := H
    unfold own_nul at hq
    split at hq
    · cases hq; cases H
      exact XS.ifnonnullNo hX hx rfl hd rfl kt
    · cases hq
      obtain ⟨ho, rfl⟩ := own_jump_spec H
      exact XS.ifnonnullYes hX hx rfl (pc0 := pc) rfl hd rfl ho rfl kt
    · cases hq
  · cases H

/-! D. the run: what touches the tables or the heap stands in a table by its pc -/
abbrev own_E := Nat × Nat × List Value × List Value
def own_find (pc : Nat) (S : List Value) : List own_E → Option (Nat × List Value)
  | [] => none
  | q :: r => if (Nat.beq q.1 pc && (q.2.2.1.isPrefixOf S && Nat.ble S.length (q.2.2.1.length + 4))) = true then some (q.2.1, q.2.2.2 ++ S.drop q.2.2.1.length) else own_find pc S r
theorem own_find_spec {pc : Nat} {S : List Value} {tb : List own_E} {r : Nat × List Value} (h : own_find pc S tb = some r) : ∃ q ∈ tb, ∃ rest, q.1 = pc ∧ S = q.2.2.1 ++ rest ∧ rest.length ≤ 4 ∧ r = (q.2.1, q.2.2.2 ++ rest) := by
  induction tb with
  | nil => cases h
  | cons q t ih =>
    rw [own_find] at h
    split at h
    · rename_i hq
      simp only [Bool.and_eq_true] at hq
      obtain ⟨h1, h2, h3⟩ := hq
      obtain ⟨w, hw⟩ := List.isPrefixOf_iff_prefix.mp h2
      cases h
      refine ⟨q, List.mem_cons_self .., w, Nat.eq_of_beq_eq_true h1, hw.symm, ?_, ?_⟩
      · have := Nat.le_of_ble_eq_true h3
        rw [← hw, List.length_append] at this
        omega
      · rw [← hw, List.drop_left]
    · obtain ⟨q', hq', z⟩ := ih h
      exact ⟨q', List.mem_cons_of_mem _ hq', z⟩
def own_at (pc : Nat) : List (Nat × Instr × Nat) → Option (Instr × Nat)
  | [] => none
  | q :: r => if Nat.beq q.1 pc = true then some q.2 else own_at pc r
theorem own_at_spec {pc : Nat} {pr : List (Nat × Instr × Nat)} {i : Instr × Nat} (h : own_at pc pr = some i) : (pc, i) ∈ pr := by
  induction pr with
  | nil => cases h
  | cons q t ih =>
    rw [own_at] at h
    split at h
    · rename_i hq
      cases h
      rw [← Nat.eq_of_beq_eq_true hq]; exact List.mem_cons_self ..
    · exact List.mem_cons_of_mem _ (ih h)
def own_next (n ml : Nat) (pr : List (Nat × Instr × Nat)) (tb : List own_E) (F : own_F) : Option own_F :=
  match own_find F.1 F.2.2 tb with
  | some r => if Nat.beq F.2.1.length ml = true then some (r.1, F.2.1, r.2) else none
  | none => (own_at F.1 pr).bind fun q => own_step n F.1 F.2.1 F.2.2 q
def own_run (n ml : Nat) (pr : List (Nat × Instr × Nat)) (tb : List own_E) (stop : Nat) : Nat → own_F → own_F
  | 0, F => F
  | k + 1, F => if Nat.beq F.1 stop = true then F else match own_next n ml pr tb F with
    | none => F
    | some F' => own_run n ml pr tb stop k F'
def own_ok (p : Program) (l : Launch) (e : Env) (R : Room) (s : State) (m : MethodId) (args : Array Value) (below : List Frame) (meth : Method) (c : Code) (locs : List Loc) (cells slots : Nat) (h : Heap) (σ : own_N) (ml : Nat) (tb : List own_E) : Prop :=
  ∀ q ∈ tb, ∀ (L : List Slot) (rest : List Value), L.length = ml → rest.length ≤ 4 → own_Go p l e R s m args below meth c locs cells slots h (own_f σ m (q.1, L, q.2.2.1 ++ rest)) (own_f σ m (q.2.1, L, q.2.2.2 ++ rest))
theorem own_next_ok {σ : own_N} {n ml : Nat} {pr : List (Nat × Instr × Nat)} {tb : List own_E} {F F' : own_F} (hx : p.tables.exec = Jvm.exec) (hi : own_inj σ n) (hpr : ∀ q ∈ pr, decode c.code q.1 = .ok q.2) (htb : own_ok p l e R s m args below meth c locs cells slots h σ ml tb) (H : own_next n ml pr tb F = some F') :
    own_Go p l e R s m args below meth c locs cells slots h (own_f σ m F) (own_f σ m F') := by
  obtain ⟨pc, L, S⟩ := F
  unfold own_next at H
  split at H
  · rename_i r hr
    split at H
    · rename_i hl
      cases H
      obtain ⟨q, hq, rest, rfl, hS, hlen, rfl⟩ := own_find_spec hr
      have hS' : S = q.2.2.1 ++ rest := hS
      subst hS'
      exact htb q hq L rest (Nat.eq_of_beq_eq_true hl) hlen
    · cases H
  · replace H := Option.bind_eq_some_iff.mp H
    obtain ⟨q, hq, H⟩ := H
    have hq' : own_at pc pr = some q := hq
    have hd : decode c.code pc = .ok q := hpr (pc, q) (own_at_spec hq')
    have H' : own_step n pc L S q = some F' := H
    exact own_step_ok hx hi hd H'
theorem own_run_ok {σ : own_N} {n ml : Nat} {pr : List (Nat × Instr × Nat)} {tb : List own_E} (hx : p.tables.exec = Jvm.exec) (hi : own_inj σ n) (hpr : ∀ q ∈ pr, decode c.code q.1 = .ok q.2) (htb : own_ok p l e R s m args below meth c locs cells slots h σ ml tb) (stop k : Nat) (F : own_F) :
    own_Go p l e R s m args below meth c locs cells slots h (own_f σ m F) (own_f σ m (own_run n ml pr tb stop k F)) := by
  induction k generalizing F with
  | zero => exact own_refl _
  | succ k ih =>
    rw [own_run]
    split
    · exact own_refl _
    · split
      · exact own_refl _
      · rename_i F' hF
        exact own_trans (own_next_ok hx hi hpr htb hF) (ih F')
theorem own_ok_nil {σ : own_N} {ml : Nat} : own_ok p l e R s m args below meth c locs cells slots h σ ml [] := fun q hq => nomatch hq
theorem own_ok_app {σ : own_N} {ml : Nat} {a b : List own_E} (A : own_ok p l e R s m args below meth c locs cells slots h σ ml a) (B : own_ok p l e R s m args below meth c locs cells slots h σ ml b) : own_ok p l e R s m args below meth c locs cells slots h σ ml (a ++ b) := fun q hq => by
  rcases List.mem_append.mp hq with z | z
  · exact A q z
  · exact B q z
theorem own_ok_cons {σ : own_N} {ml : Nat} {a : own_E} {b : List own_E} (A : ∀ (L : List Slot) (rest : List Value), L.length = ml → rest.length ≤ 4 → own_Go p l e R s m args below meth c locs cells slots h (own_f σ m (a.1, L, a.2.2.1 ++ rest)) (own_f σ m (a.2.1, L, a.2.2.2 ++ rest))) (B : own_ok p l e R s m args below meth c locs cells slots h σ ml b) : own_ok p l e R s m args below meth c locs cells slots h σ ml (a :: b) := fun q hq => by
  rcases List.mem_cons.mp hq with rfl | z
  · exact A
  · exact B q z
theorem own_ok_range {σ : own_N} {ml n : Nat} {f : Nat → own_E} (A : ∀ k, k < n → ∀ (L : List Slot) (rest : List Value), L.length = ml → rest.length ≤ 4 → own_Go p l e R s m args below meth c locs cells slots h (own_f σ m ((f k).1, L, (f k).2.2.1 ++ rest)) (own_f σ m ((f k).2.1, L, (f k).2.2.2 ++ rest))) : own_ok p l e R s m args below meth c locs cells slots h σ ml ((List.range n).map f) := fun q hq => by
  obtain ⟨k, hk, rfl⟩ := List.mem_map.mp hq
  exact A k (List.mem_range.mp hk)
theorem own_ok_flat {σ : own_N} {ml n : Nat} {f : Nat → List own_E} (A : ∀ k, k < n → own_ok p l e R s m args below meth c locs cells slots h σ ml (f k)) : own_ok p l e R s m args below meth c locs cells slots h σ ml ((List.range n).flatMap f) := fun q hq => by
  obtain ⟨k, hk, hq'⟩ := List.mem_flatMap.mp hq
  exact A k (List.mem_range.mp hk) q hq'

/-! E. single instructions that read the tables or the heap -/
def own_Cx (p : Program) (s : State) (m : MethodId) (c : Code) (Z : State) (own : String) (bytes : ByteArray) (ml : Nat) : Prop := p.tables.exec = Jvm.exec ∧ Z.Warmed39 s.vm ∧ s.vm.findClass own = some m.cls ∧ c.code = bytes ∧ c.maxLocals = ml
theorem own_e_static {σ : own_N} {Z : State} {a0 : Array Value} {own : String} {bytes : ByteArray} {ml pc idx : Nat} {O n d : String} {v : Value} (C : own_Cx p s m c Z own bytes ml) (w : (Cond.fieldLink own idx O n d).before a0 Z = true) (F : Sta Z h O n d (own_v σ v)) (hd : decode bytes pc = .ok (.getstatic idx, 3)) (L : List Slot) (rest : List Value) :
    own_Go p l e R s m args below meth c locs cells slots h (own_f σ m (pc, L, [] ++ rest)) (own_f σ m (pc + 3, L, [v] ++ rest)) := fun T X eT => by
  obtain ⟨hx, hZ, hown, hby, -⟩ := C
  exact Jvm.RoadKit.getS2 X hx hZ hown (host := "") (Or.inl w) Via.refl eT F (g := own_f σ m (pc, L, [] ++ rest)) rfl (hb hby hd)
theorem own_e_field {σ : own_N} {Z : State} {a0 : Array Value} {own : String} {bytes : ByteArray} {ml pc idx k : Nat} {O n d : String} {v : Value} (C : own_Cx p s m c Z own bytes ml) (w : (Cond.fieldLink own idx O n d).before a0 Z = true) (F : Fld Z h (σ.1 k) O n d (own_v σ v)) (hd : decode bytes pc = .ok (.getfield idx, 3)) (L : List Slot) (rest : List Value) :
    own_Go p l e R s m args below meth c locs cells slots h (own_f σ m (pc, L, [.ref k] ++ rest)) (own_f σ m (pc + 3, L, [v] ++ rest)) := fun T X eT => by
  obtain ⟨hx, hZ, hown, hby, -⟩ := C
  exact Jvm.RoadKit.getF X hx hZ hown (host := "") (Or.inl w) Via.refl eT F (g := own_f σ m (pc, L, [Value.ref k] ++ rest)) rfl rfl (hb hby hd)
theorem own_e_ldc {σ : own_N} {Z : State} {a0 : Array Value} {own : String} {bytes : ByteArray} {ml pc idx : Nat} {v : Int32} (C : own_Cx p s m c Z own bytes ml) (w : (Cond.constant own idx v).before a0 Z = true) (hd : decode bytes pc = .ok (.ldc idx, 2)) (L : List Slot) (rest : List Value) :
    own_Go p l e R s m args below meth c locs cells slots h (own_f σ m (pc, L, [] ++ rest)) (own_f σ m (pc + 2, L, [.int v] ++ rest)) := own_of fun T X t kt => by
  obtain ⟨hx, hZ, hown, hby, -⟩ := C
  exact X.ldcInt hx hown (mvT hZ w) (g := own_f σ m (pc, L, [] ++ rest)) rfl (hb hby hd) t kt
theorem own_cats (σ : own_N) (rest : List Value) (h4 : rest.length ≤ 4) : ((rest.map (own_v σ)).map fun v => v.category).sum ≤ 8 := by
  have key : ∀ r : List Value, ((r.map (own_v σ)).map fun v => v.category).sum ≤ 2 * r.length := by
    intro r
    induction r with
    | nil => exact Nat.le_refl _
    | cons a t ih =>
      have ha : (own_v σ a).category ≤ 2 := by cases a <;> first | exact Nat.le_refl 2 | exact Nat.le_succ 1
      simp only [List.map_cons, List.sum_cons, List.length_cons]
      omega
  have := key rest
  omega
def own_Q (h0 : Heap) (v : Value) (v' : Option Value) (h : Heap) (L : List Loc) : Prop := v' = some v ∧ L = [] ∧ h = h0
def own_Met (l : Launch) (Z : State) (y : MethodName) (bytes : ByteArray) (ml : Nat) (t : FieldType) (ws : List Jvm.Cond) (rm : Room) (h0 : Heap) (as : Array Value) (v : Value) : Prop :=
  MetFree l y (head1 (Jvm.Cond.code y bytes ml (some t) :: ws) rm) (fun a U => a = as ∧ Z.Warmed39 U.vm ∧ U.heap = h0) (fun _ _ _ _ _ => True) (fun _ U o U' => ∃ v' L, o = .returned v' ∧ own_Q h0 v v' U'.heap L ∧ FrameEnd U o U' L rm.cells rm.slots)
theorem own_e_callS {σ : own_N} {Z : State} {a0 : Array Value} {own : String} {bytes yb : ByteArray} {ml yl pc idx : Nat} {y : MethodName} {t : FieldType} {rm : Room} {as : List Value} {v : Value} {ps : List FieldType} {rt : Option FieldType} (C : own_Cx p s m c Z own bytes ml) (K : own_Met l Z y yb yl t [] rm h (as.map (own_v σ)).toArray (own_v σ v))
    (w : (Cond.methodLink own idx y).before a0 Z = true) (w1 : (Cond.static y).before a0 Z = true) (w2 : (Cond.initialized y.cls).before a0 Z = true) (w3 : (Cond.code y yb yl (some t)).before a0 Z = true) (hy : y.cls ≠ "java/lang/invoke/MethodHandle" ∧ y.cls ≠ "java/lang/invoke/VarHandle") (hp : parseMethodDescriptor y.desc = some ⟨ps, rt⟩) (hps : as.length = ps.length)
    (hR : rm.frames + 1 ≤ R.frames ∧ 8 + (yl + 11) + rm.locals ≤ R.locals ∧ rm.cells = 0 ∧ rm.slots = 0 ∧ cells ≤ R.cells ∧ slots ≤ R.slots) (hd : decode bytes pc = .ok (.invokestatic idx, 3)) (L : List Slot) (rest : List Value) (hL : L.length = ml) (h4 : rest.length ≤ 4) :
    own_Go p l e R s m args below meth c locs cells slots h (own_f σ m (pc, L, as.reverse ++ rest)) (own_f σ m (pc + 3, L, [v] ++ rest)) := fun T X eT => by
  obtain ⟨hx, hZ, hown, hby, hml⟩ := C
  obtain ⟨r1, r2, r3, r4, r5, r6⟩ := hR
  obtain ⟨_, _, ⟨T1, L1, k1, n1⟩, -, X1, ⟨Lc, hQ, l1, y1, z1⟩, st⟩ := Jvm.LawKit.callS X hx hown (mvT hZ w) (mvT hZ w1) (mvT hZ w2) (mvT hZ w3) hy (backOf (W := 8) (Q := own_Q h (own_v σ v)) K hZ w3 w2 r1 r2) (g := own_f σ m (pc, L, as.reverse ++ rest)) rfl (by show (L.map (own_s σ)).toArray.size = _; rw [List.size_toArray, List.length_map, hL, hml]) (argsL := as.map (own_v σ)) (rest := rest.map (own_v σ)) (lenOf hp (by rw [List.length_map, hps])) (by show (as.reverse ++ rest).map (own_v σ) = _; rw [List.map_append, List.map_reverse]) (by show 2 * 0 + _ ≤ 8; rw [Nat.mul_zero, Nat.zero_add]; exact own_cats σ rest h4) (hb hby hd) (fun _ _ => ⟨rfl, eT, by show cells + rm.cells ≤ _; rw [r3]; exact r5, by show slots + rm.slots ≤ _; rw [r4]; exact r6⟩)
  dsimp only [Pt.U, Pt.locs, Pt.cells, Pt.slots] at X1 l1 y1 z1 st hQ
  obtain ⟨rfl, rfl, hh⟩ := hQ
  rw [List.append_nil] at l1
  rw [r3, Nat.add_zero] at y1
  rw [r4, Nat.add_zero] at z1
  subst l1 y1 z1
  exact ⟨T1, X1, hh, fun t k => st t k⟩
theorem own_e_callV {σ : own_N} {Z : State} {a0 : Array Value} {own K1 : String} {bytes yb : ByteArray} {ml yl pc idx k : Nat} {y : MethodName} {t : FieldType} {rm : Room} {as : List Value} {v : Value} {ps : List FieldType} {rt : Option FieldType} (C : own_Cx p s m c Z own bytes ml) (K : own_Met l Z y yb yl t [] rm h ((.ref k :: as).map (own_v σ)).toArray (own_v σ v)) (E : Exa Z h (σ.1 k) K1)
    (w : (Cond.methodLink own idx y).before a0 Z = true) (w1 : (Cond.declares y).before a0 Z = true) (w4 : (Cond.instanceMethod y).before a0 Z = true) (w5 : (Cond.selects K1 y y).before a0 Z = true) (w2 : (Cond.initialized y.cls).before a0 Z = true) (w3 : (Cond.code y yb yl (some t)).before a0 Z = true) (hy : y.cls ≠ "java/lang/invoke/MethodHandle" ∧ y.cls ≠ "java/lang/invoke/VarHandle") (hp : parseMethodDescriptor y.desc = some ⟨ps, rt⟩) (hps : as.length = ps.length)
    (hR : rm.frames + 1 ≤ R.frames ∧ 8 + (yl + 11) + rm.locals ≤ R.locals ∧ rm.cells = 0 ∧ rm.slots = 0 ∧ cells ≤ R.cells ∧ slots ≤ R.slots) (hd : decode bytes pc = .ok (.invokevirtual idx, 3)) (L : List Slot) (rest : List Value) (hL : L.length = ml) (h4 : rest.length ≤ 4) :
    own_Go p l e R s m args below meth c locs cells slots h (own_f σ m (pc, L, (as.reverse ++ [.ref k]) ++ rest)) (own_f σ m (pc + 3, L, [v] ++ rest)) := fun T X eT => by
  obtain ⟨hx, hZ, hown, hby, hml⟩ := C
  obtain ⟨r1, r2, r3, r4, r5, r6⟩ := hR
  obtain ⟨cq, kq, qa, qb, qc⟩ := isOf hZ eT E
  obtain ⟨_, _, ⟨T1, L1, k1, n1⟩, -, X1, ⟨Lc, hQ, l1, y1, z1⟩, st⟩ := X.virtualBack hx (y := y) (z := y) hown (mvT hZ w) (mvT hZ w1) (notFace_of_selects (args := #[]) (mvT hZ w5)) (mvT hZ w5) (mvT hZ w4) hy (backOf (W := 8) (Q := own_Q h (own_v σ v)) K hZ w3 w2 r1 r2) qa qc (g := own_f σ m (pc, L, (as.reverse ++ [Value.ref k]) ++ rest)) rfl (by show (L.map (own_s σ)).toArray.size = _; rw [List.size_toArray, List.length_map, hL, hml]) (Steps.refl _) (argsL := as.map (own_v σ)) (rest := rest.map (own_v σ)) (lenOf hp (by rw [List.length_map, hps])) (by show ((as.reverse ++ [Value.ref k]) ++ rest).map (own_v σ) = _; rw [List.map_append, List.map_append, List.map_reverse, List.append_assoc]; rfl) (by show 2 * 0 + _ ≤ 8; rw [Nat.mul_zero, Nat.zero_add]; exact own_cats σ rest h4) (hb hby hd) (fun _ _ => ⟨rfl, eT, by show cells + rm.cells ≤ _; rw [r3]; exact r5, by show slots + rm.slots ≤ _; rw [r4]; exact r6⟩)
  dsimp only [Pt.U, Pt.locs, Pt.cells, Pt.slots] at X1 l1 y1 z1 st hQ
  obtain ⟨rfl, rfl, hh⟩ := hQ
  rw [List.append_nil] at l1
  rw [r3, Nat.add_zero] at y1
  rw [r4, Nat.add_zero] at z1
  subst l1 y1 z1
  exact ⟨T1, X1, hh, fun t k => st.trans k⟩

theorem own_e_callU {σ : own_N} {Z : State} {a0 : Array Value} {own K1 : String} {bytes yb : ByteArray} {ml yl pc idx k : Nat} {y yy : MethodName} {t : FieldType} {rm : Room} {as : List Value} {v : Value} {ps : List FieldType} {rt : Option FieldType} (C : own_Cx p s m c Z own bytes ml) (K : own_Met l Z y yb yl t [] rm h ((.ref k :: as).map (own_v σ)).toArray (own_v σ v)) (E : Exa Z h (σ.1 k) K1)
    (w : (Cond.methodLink own idx yy).before a0 Z = true) (w0 : (Cond.sameMethod yy.cls y.cls yy.name yy.desc).before a0 Z = true) (w1 : (Cond.declares ⟨y.cls, yy.name, yy.desc⟩).before a0 Z = true) (w4 : (Cond.instanceMethod y).before a0 Z = true) (w5 : (Cond.selects K1 yy y).before a0 Z = true) (w2 : (Cond.initialized y.cls).before a0 Z = true) (w3 : (Cond.code y yb yl (some t)).before a0 Z = true) (hy : y.cls ≠ "java/lang/invoke/MethodHandle" ∧ y.cls ≠ "java/lang/invoke/VarHandle") (hp : parseMethodDescriptor yy.desc = some ⟨ps, rt⟩) (hps : as.length = ps.length)
    (hR : rm.frames + 1 ≤ R.frames ∧ 8 + (yl + 11) + rm.locals ≤ R.locals ∧ rm.cells = 0 ∧ rm.slots = 0 ∧ cells ≤ R.cells ∧ slots ≤ R.slots) (hd : decode bytes pc = .ok (.invokevirtual idx, 3)) (L : List Slot) (rest : List Value) (hL : L.length = ml) (h4 : rest.length ≤ 4) :
    own_Go p l e R s m args below meth c locs cells slots h (own_f σ m (pc, L, (as.reverse ++ [.ref k]) ++ rest)) (own_f σ m (pc + 3, L, [v] ++ rest)) := fun T X eT => by
  obtain ⟨hx, hZ, hown, hby, hml⟩ := C
  obtain ⟨r1, r2, r3, r4, r5, r6⟩ := hR
  obtain ⟨cq, kq, qa, qb, qc⟩ := isOf hZ eT E
  obtain ⟨_, _, ⟨T1, L1, k1, n1⟩, -, X1, ⟨Lc, hQ, l1, y1, z1⟩, st⟩ := X.virtualBackUp hx (x := yy) (y := y) (owner := y.cls) hown (mvT hZ w) (mvT hZ w0) (mvT hZ w1) hy (mvT hZ w5) (mvT hZ w4) (backOf (W := 8) (Q := own_Q h (own_v σ v)) K hZ w3 w2 r1 r2) qa qc (g := own_f σ m (pc, L, (as.reverse ++ [Value.ref k]) ++ rest)) rfl (by show (L.map (own_s σ)).toArray.size = _; rw [List.size_toArray, List.length_map, hL, hml]) (Steps.refl _) (argsL := as.map (own_v σ)) (rest := rest.map (own_v σ)) (lenOf hp (by rw [List.length_map, hps])) (by show ((as.reverse ++ [Value.ref k]) ++ rest).map (own_v σ) = _; rw [List.map_append, List.map_append, List.map_reverse, List.append_assoc]; rfl) (by show 2 * 0 + _ ≤ 8; rw [Nat.mul_zero, Nat.zero_add]; exact own_cats σ rest h4) (hb hby hd) (fun _ _ => ⟨rfl, eT, by show cells + rm.cells ≤ _; rw [r3]; exact r5, by show slots + rm.slots ≤ _; rw [r4]; exact r6⟩)
  dsimp only [Pt.U, Pt.locs, Pt.cells, Pt.slots] at X1 l1 y1 z1 st hQ
  obtain ⟨rfl, rfl, hh⟩ := hQ
  rw [List.append_nil] at l1
  rw [r3, Nat.add_zero] at y1
  rw [r4, Nat.add_zero] at z1
  subst l1 y1 z1
  exact ⟨T1, X1, hh, fun t k => st.trans k⟩

/-! F. a body whose run ends in a return -/
def own_ends (pr : List (Nat × Instr × Nat)) (t : FieldType) (v : Value) (F : own_F) : Bool := match F.2.2 with
  | w :: _ => decide (w = v) && (match own_at F.1 pr, w with
    | some (.ireturn, 1), .int z => (t == .int || t == .boolean || t == .byte || t == .char || t == .short) && decide (narrow t (.int z) = .int z)
    | some (.areturn, 1), .ref _ => t.isReference
    | some (.areturn, 1), .null => t.isReference
    | _, _ => false)
  | [] => false
theorem own_fin {T : State} {bytes : ByteArray} {t : FieldType} {v : Value} {σ : own_N} {pr : List (Nat × Instr × Nat)} (X : Stand p l e R s m args below meth c T locs cells slots) (hx : p.tables.exec = Jvm.exec) (hret : meth.sig.returnType = some t) (hby : c.code = bytes) (hpr : ∀ q ∈ pr, decode bytes q.1 = .ok q.2) (F : own_F) (hF : own_ends pr t v F = true) {fs : List Frame}
    (hr : ∀ (f : JFrame) (acts : List Action), f.method = m → f.locked = none → f.entered = [] → (doReturn e (T.setTop f) acts (some (own_v σ v))).1 = T.setFrames fs) : Steps p.tables e below (T.setTop (own_f σ m F)) (T.setFrames fs) := by
  obtain ⟨pc, L, S⟩ := F
  unfold own_ends at hF
  split at hF
  · rename_i w rest hS
    have hS' : S = w :: rest := hS
    subst hS'
    rw [Bool.and_eq_true] at hF
    obtain ⟨h1, h2⟩ := hF
    have h1' : w = v := of_decide_eq_true h1
    subst h1'
    split at h2
    · rename_i z ha
      rw [Bool.and_eq_true] at h2
      refine retOut X hx hret (of_decide_eq_true h2.2) (Or.inl ⟨rfl, ?_, z, rfl⟩) (hb hby (hpr _ (own_at_spec ha))) hr
      simpa [or_assoc] using h2.1
    · rename_i z ha
      exact retOut X hx hret (by cases t <;> rfl) (Or.inr (Or.inr (Or.inr (Or.inr ⟨rfl, h2, rfl⟩)))) (hb hby (hpr _ (own_at_spec ha))) hr
    · rename_i ha
      exact retOut X hx hret (by cases t <;> rfl) (Or.inr (Or.inr (Or.inr (Or.inr ⟨rfl, h2, rfl⟩)))) (hb hby (hpr _ (own_at_spec ha))) hr
    · cases h2
  · cases hF
theorem own_met {Z : State} {y : MethodName} {bytes : ByteArray} {ml : Nat} {t : FieldType} {ws : List Jvm.Cond} {rm : Room} {h0 : Heap} {as : Array Value} {v : Value} {σ : own_N} {pr : List (Nat × Instr × Nat)} (pn : plainFor y = true) (hpr : ∀ q ∈ pr, decode bytes q.1 = .ok q.2) (F : own_F) (hF : own_ends pr t v F = true)
    (hgo : ∀ (p : Program) (e : Env) (s : State) (m : MethodId) (below : List Frame) (meth : Method) (c : Code), own_Cx p s m c Z y.cls bytes ml → own_Go p l e rm s m as below meth c [] 0 0 h0 (entryFrame m as ml) (own_f σ m F)) :
    own_Met l Z y bytes ml t ws rm h0 as (own_v σ v) := by
  refine MetFree.of_bodySF pn hisR ?_
  intro p e s m args below meth c s₁ Bd hml0 hP hK
  obtain ⟨rfl, hZ, hh⟩ := hP
  have hx := Bd.exec
  have hby := Bd.bytes
  have hown : s.vm.findClass y.cls = some m.cls := findClass_of_methodNamed Bd.named
  have X0 : Stand p l e rm s m args below meth c s₁ [] 0 0 := Stand.of_body Bd
  have e0 : s₁.heap = h0 := by rw [← hh, Bd.state]; rfl
  obtain ⟨T, X, eT, st⟩ := hgo p e s m below meth c ⟨hx, hZ, hown, hby, hml0⟩ s₁ X0 e0
  obtain ⟨fs, hr, hrun, hended, hW, hsame⟩ := X.leave (v := some (own_v σ v)) (fun h => by rw [Bd.returns] at h; cases h)
  exact ⟨_, _, st _ (own_fin X hx Bd.returns hby hpr F hF hr), hrun, hended, _, _, rfl, ⟨rfl, rfl, eT⟩, ⟨_, rfl⟩, hW, hsame.mono (Nat.zero_le _) (Nat.zero_le _)⟩
end OwnGo

/-! G. steps over ints that aren't known -/
section OwnSym
variable {p : Program} {l : Launch} {e : Env} {R : Room} {s : State} {m : MethodId} {args : Array Value} {below : List Frame} {meth : Method} {c : Code} {locs : List Loc} {cells slots : Nat} {h : Heap} {σ : own_N} {Z : State} {own : String} {bytes : ByteArray} {ml pc : Nat}
theorem own_f1 {L : List Slot} {r v : Value} {rest : List Value} (q : own_v σ r = v) : own_f σ m (pc, L, [r] ++ rest) = mkF m pc (L.map (own_s σ)).toArray (v :: rest.map (own_v σ)) := by rw [← q]; rfl
theorem own_f2 {L : List Slot} {r1 r2 v1 v2 : Value} {rest : List Value} (q1 : own_v σ r1 = v1) (q2 : own_v σ r2 = v2) : (own_f σ m (pc, L, [r1, r2] ++ rest)).stack = v1 :: v2 :: rest.map (own_v σ) := by rw [← q1, ← q2]; rfl
theorem own_e_iadd {a b r : Value} {x y : Int32} (C : own_Cx p s m c Z own bytes ml) (ha : own_v σ a = .int x) (hb' : own_v σ b = .int y) (hr : own_v σ r = .int (x + y)) (hd : decode bytes pc = .ok (.iadd, 1)) (L : List Slot) (rest : List Value) :
    own_Go p l e R s m args below meth c locs cells slots h (own_f σ m (pc, L, [b, a] ++ rest)) (own_f σ m (pc + 1, L, [r] ++ rest)) := own_of fun T X t kt => by
  rw [own_f1 hr] at kt
  exact XS.iadd X.here C.1 rfl (hb C.2.2.2.1 hd) (own_f2 hb' ha) kt
theorem own_e_isub {a b r : Value} {x y : Int32} (C : own_Cx p s m c Z own bytes ml) (ha : own_v σ a = .int x) (hb' : own_v σ b = .int y) (hr : own_v σ r = .int (x - y)) (hd : decode bytes pc = .ok (.isub, 1)) (L : List Slot) (rest : List Value) :
    own_Go p l e R s m args below meth c locs cells slots h (own_f σ m (pc, L, [b, a] ++ rest)) (own_f σ m (pc + 1, L, [r] ++ rest)) := own_of fun T X t kt => by
  rw [own_f1 hr] at kt
  exact XS.isub X.here C.1 rfl (hb C.2.2.2.1 hd) (own_f2 hb' ha) kt
theorem own_e_imul {a b r : Value} {x y : Int32} (C : own_Cx p s m c Z own bytes ml) (ha : own_v σ a = .int x) (hb' : own_v σ b = .int y) (hr : own_v σ r = .int (x * y)) (hd : decode bytes pc = .ok (.imul, 1)) (L : List Slot) (rest : List Value) :
    own_Go p l e R s m args below meth c locs cells slots h (own_f σ m (pc, L, [b, a] ++ rest)) (own_f σ m (pc + 1, L, [r] ++ rest)) := own_of fun T X t kt => by
  rw [own_f1 hr] at kt
  exact XS.imul X.here C.1 rfl (hb C.2.2.2.1 hd) (own_f2 hb' ha) kt
theorem own_e_iand {a b r : Value} {x y : Int32} (C : own_Cx p s m c Z own bytes ml) (ha : own_v σ a = .int x) (hb' : own_v σ b = .int y) (hr : own_v σ r = .int (x &&& y)) (hd : decode bytes pc = .ok (.iand, 1)) (L : List Slot) (rest : List Value) :
    own_Go p l e R s m args below meth c locs cells slots h (own_f σ m (pc, L, [b, a] ++ rest)) (own_f σ m (pc + 1, L, [r] ++ rest)) := own_of fun T X t kt => by
  rw [own_f1 hr] at kt
  exact XS.iand X.here C.1 rfl (hb C.2.2.2.1 hd) (own_f2 hb' ha) kt
theorem own_e_irem {a b r : Value} {x y : Int32} (C : own_Cx p s m c Z own bytes ml) (ha : own_v σ a = .int x) (hb' : own_v σ b = .int y) (hy : y ≠ 0) (hr : own_v σ r = .int (x % y)) (hd : decode bytes pc = .ok (.irem, 1)) (L : List Slot) (rest : List Value) :
    own_Go p l e R s m args below meth c locs cells slots h (own_f σ m (pc, L, [b, a] ++ rest)) (own_f σ m (pc + 1, L, [r] ++ rest)) := own_of fun T X t kt => by
  rw [own_f1 hr] at kt
  exact iremM X C.1 rfl (hb C.2.2.2.1 hd) (own_f2 hb' ha) hy kt
theorem own_e_i2s {a r : Value} {x : Int32} (C : own_Cx p s m c Z own bytes ml) (ha : own_v σ a = .int x) (hr : own_v σ r = .int x.toInt16.toInt32) (hd : decode bytes pc = .ok (.i2s, 1)) (L : List Slot) (rest : List Value) :
    own_Go p l e R s m args below meth c locs cells slots h (own_f σ m (pc, L, [a] ++ rest)) (own_f σ m (pc + 1, L, [r] ++ rest)) := own_of fun T X t kt => by
  rw [own_f1 hr] at kt
  exact XS.i2s X.here C.1 rfl (hb C.2.2.2.1 hd) (congrArg (fun w => w :: rest.map (own_v σ)) ha) kt
theorem own_e_ifT {a : Value} {x : Int32} {cd : ClassFile.Cond} {o : Int} {pc' : Nat} (C : own_Cx p s m c Z own bytes ml) (ha : own_v σ a = .int x) (hc : ifCond.holds cd x = true) (hd : decode bytes pc = .ok (.ifCond cd o, 3)) (ho : 0 ≤ (pc : Int) + o) (hp : ((pc : Int) + o).toNat = pc') (L : List Slot) (rest : List Value) :
    own_Go p l e R s m args below meth c locs cells slots h (own_f σ m (pc, L, [a] ++ rest)) (own_f σ m (pc', L, [] ++ rest)) := own_of fun T X t kt => XS.ifYes X.here C.1 rfl (pc0 := pc) rfl (hb C.2.2.2.1 hd) (congrArg (fun w => w :: rest.map (own_v σ)) ha) hc ho hp kt
theorem own_e_ifF {a : Value} {x : Int32} {cd : ClassFile.Cond} {o : Int} (C : own_Cx p s m c Z own bytes ml) (ha : own_v σ a = .int x) (hc : ifCond.holds cd x = false) (hd : decode bytes pc = .ok (.ifCond cd o, 3)) (L : List Slot) (rest : List Value) :
    own_Go p l e R s m args below meth c locs cells slots h (own_f σ m (pc, L, [a] ++ rest)) (own_f σ m (pc + 3, L, [] ++ rest)) := own_of fun T X t kt => XS.ifNo X.here C.1 rfl (hb C.2.2.2.1 hd) (congrArg (fun w => w :: rest.map (own_v σ)) ha) hc kt
theorem own_e_icT {a b : Value} {x y : Int32} {cd : ClassFile.Cond} {o : Int} {pc' : Nat} (C : own_Cx p s m c Z own bytes ml) (ha : own_v σ a = .int x) (hb' : own_v σ b = .int y) (hc : if_icmp.holds cd x y = true) (hd : decode bytes pc = .ok (.if_icmp cd o, 3)) (ho : 0 ≤ (pc : Int) + o) (hp : ((pc : Int) + o).toNat = pc') (L : List Slot) (rest : List Value) :
    own_Go p l e R s m args below meth c locs cells slots h (own_f σ m (pc, L, [b, a] ++ rest)) (own_f σ m (pc', L, [] ++ rest)) := own_of fun T X t kt => XS.icmpYes X.here C.1 rfl (pc0 := pc) rfl (hb C.2.2.2.1 hd) (own_f2 hb' ha) hc ho hp kt
theorem own_e_icF {a b : Value} {x y : Int32} {cd : ClassFile.Cond} {o : Int} (C : own_Cx p s m c Z own bytes ml) (ha : own_v σ a = .int x) (hb' : own_v σ b = .int y) (hc : if_icmp.holds cd x y = false) (hd : decode bytes pc = .ok (.if_icmp cd o, 3)) (L : List Slot) (rest : List Value) :
    own_Go p l e R s m args below meth c locs cells slots h (own_f σ m (pc, L, [b, a] ++ rest)) (own_f σ m (pc + 3, L, [] ++ rest)) := own_of fun T X t kt => XS.icmpNo X.here C.1 rfl (hb C.2.2.2.1 hd) (own_f2 hb' ha) hc kt
end OwnSym

/-! H. from the case's words to facts; ints of few values -/
theorem own_w_sta {args : Array Value} {s : State} {C n d K : String} (hx : (Cond.exactly (Term.static C n d) K).value args s none s [] = some true) (wi : (Cond.initialized C).before args s = true) (wl : (Cond.laysStatic C n d).before args s = true) : ∃ a, (Term.static C n d).eval args s none [] s = some (.ref a) ∧ Sta s s.heap C n d (.ref a) ∧ Exa s s.heap a K := by
  obtain ⟨a, ha⟩ := exa_v hx
  exact ⟨a, ha, Sta.start ha (Or.inr ⟨wi, wl⟩), Exa.start ha hx⟩
theorem own_w_fld {args : Array Value} {s : State} {t : Term} {a : Addr} {C n d : String} {v : Int32} (ev : t.eval args s none [] s = some (.ref a)) (hq : (Cond.eq (Term.field t C n d) (Term.int v)).value args s none s [] = some true) : Fld s s.heap a C n d (.int v) := by
  obtain ⟨x, y, h1, h2, k1, k2⟩ := cmp_v (Or.inl hq)
  cases (Term.int_eval v).symm.trans h2
  obtain ⟨z, rfl⟩ := k2
  have e1 := gotT (Cond.eq_ints h1 (Term.int_eval v)) hq
  subst e1
  exact Fld.start ((fld_at ev).symm.trans h1)
theorem own_few (v : Int32) {n : Nat} (h0 : 0 ≤ v.toInt) (h1 : v.toInt < n) : ∃ k, k < n ∧ v = Int32.ofNat k := by
  refine ⟨v.toInt.toNat, by omega, Int32.toInt.inj ?_⟩
  have h2 := v.toInt_lt
  rw [Int32.toInt_ofNat_of_lt (by omega)]
  omega
theorem own_mask (x m : Int32) {k : Nat} (hk : k < 32) (hm : m.toBitVec.toNat = 2 ^ k - 1) : ∃ j, j < 2 ^ k ∧ x &&& m = Int32.ofNat j := by
  have e := Jvm.Kit.i32_mask x m hk hm
  have hp : (0 : Int) < 2 ^ k := Int.pow_pos (by decide)
  refine own_few _ (by rw [e]; exact Int.emod_nonneg _ (Int.ne_of_gt hp)) ?_
  rw [e, Int.natCast_pow]; exact Int.emod_lt_of_pos _ hp
theorem own_rem (x y : Int32) {n : Nat} (hn : 0 < n) (hy : y.toInt = n) : ∃ j, j < n ∧ (x &&& 2147483647) % y = Int32.ofNat j := by
  have e := Jvm.Kit.i32_mask x 2147483647 (k := 31) (by decide) (by decide)
  have h0 : 0 ≤ (x &&& 2147483647).toInt := by rw [e]; exact Int.emod_nonneg _ (by decide)
  have e2 : ((x &&& 2147483647) % y).toInt = (x &&& 2147483647).toInt % y.toInt := Jvm.Kit.i32_rem_nonneg h0
  refine own_few _ (by rw [e2]; exact Int.emod_nonneg _ (by omega)) ?_
  rw [e2, hy]; exact Int.emod_lt_of_pos _ (by omega)
theorem own_inj_of {σ : own_N} {Z : State} {h : Heap} {n : Nat} {O f d : String} (hn : n ≤ 1000) (F : ∀ k, k < n → Fld Z h (σ.1 k) O f d (.int (Int32.ofNat k))) : own_inj σ n := fun a b ha hb' q => by
  refine Classical.byContradiction fun hne => ?_
  refine Fld.ne (F a ha) (F b hb') (fun z => hne ?_) q
  have z1 := congrArg Int32.toInt (Value.int.inj z)
  rw [Int32.toInt_ofNat_of_lt (by omega), Int32.toInt_ofNat_of_lt (by omega)] at z1
  omega
theorem own_sub {x c k : Int32} (H : x &&& 7 = c) (hk : 7 &&& k = k) : c &&& k = x &&& k := by rw [← H, Int32.and_assoc, hk]

/-! I. arrays that the law makes -/
section OwnFill
variable {p : Program} {l : Launch} {e : Env} {R : Room} {s : State} {m : MethodId} {args : Array Value} {below : List Frame} {meth : Method} {c : Code} {T : State} {locs : List Loc} {cells slots : Nat} {h : Heap} {σ : own_N} {Z : State} {own : String} {bytes : ByteArray} {ml pc B : Nat} {ck : ClassId} {ty : FieldType} {j z : Int32} {vs : List Value} {dv : Value}
theorem own_fill (X : Stand p l e R s m args below meth c T locs cells slots) (eT : T.heap = h) (C : own_Cx p s m c Z own bytes ml) {k : Nat} {K : String} (V : Arv Z h (σ.1 B) ck (.object K) z vs .null) (O : Ovr Z ck K) (I : Ins Z h (σ.1 k) K true) (hj : ¬ j < 0 ∧ j < z) (i : Nat) (hji : j.toNatClampNeg = i) (hi : i < vs.length) (hd : decode bytes pc = .ok (.aastore, 1)) {n0 : Nat} (N : Fr n0 locs) (hn : n0 ≤ σ.1 B) (L : List Slot) (S : List Value) :
    ∃ T' h' locs', Stand p l e R s m args below meth c T' locs' cells slots ∧ T'.heap = h' ∧ Fr n0 locs' ∧ (∃ sl v, Wr h h' (σ.1 B) sl v) ∧ Arv Z h' (σ.1 B) ck (.object K) z (vs.set i (.ref (σ.1 k))) .null ∧ ∀ t, Steps p.tables e below (T'.setTop (own_f σ m (pc + 1, L, S))) t → Steps p.tables e below (T.setTop (own_f σ m (pc, L, .ref k :: .int j :: .ref B :: S))) t := by
  obtain ⟨hx, hZ, hown, hby, -⟩ := C
  obtain ⟨cl, Ar, q1, q2, q3, q4, q5⟩ := V
  have hin := inb_of q2 hj
  obtain ⟨T', h', X', e', W', st⟩ := stR X hx hZ eT Ar hin rfl (Sto.ofV Ar q1 O I) (g := own_f σ m (pc, L, Value.ref k :: Value.int j :: Value.ref B :: S)) rfl rfl (hb hby hd)
  exact ⟨T', h', _, X', e', Fr.snoc X' N hn, ⟨_, _, W'⟩, Arv.set Ar q1 q2 q3 q4 q5 rfl W' i hji hi, st⟩
theorem own_filli (X : Stand p l e R s m args below meth c T locs cells slots) (eT : T.heap = h) (C : own_Cx p s m c Z own bytes ml) {w : Int32} (V : Arv Z h (σ.1 B) ck .int z vs dv) (hj : ¬ j < 0 ∧ j < z) (i : Nat) (hji : j.toNatClampNeg = i) (hi : i < vs.length) (hd : decode bytes pc = .ok (.iastore, 1)) {n0 : Nat} (N : Fr n0 locs) (hn : n0 ≤ σ.1 B) (L : List Slot) (S : List Value) :
    ∃ T' h' locs', Stand p l e R s m args below meth c T' locs' cells slots ∧ T'.heap = h' ∧ Fr n0 locs' ∧ (∃ sl v, Wr h h' (σ.1 B) sl v) ∧ Arv Z h' (σ.1 B) ck .int z (vs.set i (.int w)) dv ∧ ∀ t, Steps p.tables e below (T'.setTop (own_f σ m (pc + 1, L, S))) t → Steps p.tables e below (T.setTop (own_f σ m (pc, L, .int w :: .int j :: .ref B :: S))) t := by
  obtain ⟨hx, hZ, hown, hby, -⟩ := C
  obtain ⟨cl, Ar, q1, q2, q3, q4, q5⟩ := V
  have hin := inb_of q2 hj
  obtain ⟨T', h', X', e', W', st⟩ := stI X hx hZ eT Ar hin (g := own_f σ m (pc, L, Value.int w :: Value.int j :: Value.ref B :: S)) rfl rfl (hb hby hd)
  exact ⟨T', h', _, X', e', Fr.snoc X' N hn, ⟨_, _, W'⟩, Arv.set Ar q1 q2 q3 q4 q5 rfl W' i hji hi, st⟩
theorem own_e_aaload {v : Value} (C : own_Cx p s m c Z own bytes ml) (V : Arv Z h (σ.1 B) ck ty z vs dv) (hty : ty.isReference = true) (hj : ¬ j < 0 ∧ j < z) (hv : vs.getD j.toNatClampNeg dv = own_v σ v) (hd : decode bytes pc = .ok (.aaload, 1)) (L : List Slot) (rest : List Value) :
    own_Go p l e R s m args below meth c locs cells slots h (own_f σ m (pc, L, [.int j, .ref B] ++ rest)) (own_f σ m (pc + 1, L, [v] ++ rest)) := fun T X eT => by
  obtain ⟨hx, hZ, hown, hby, -⟩ := C
  obtain ⟨cl, Ar, q1, q2, q3, q4, q5⟩ := V
  have hin := inb_of q2 hj
  exact ⟨T, X, eT, fun t kt => X.aaload hx (by rw [eT]; exact Ar.1) (State.isArrayOf_alike hZ.alike Ar.2.1) hty Ar.2.2 hin (Has.at q4 hin hv) (g := own_f σ m (pc, L, [Value.int j, Value.ref B] ++ rest)) rfl rfl (hb hby hd) t kt⟩
theorem own_e_iaload {v : Value} (C : own_Cx p s m c Z own bytes ml) (V : Arv Z h (σ.1 B) ck .int z vs dv) (hj : ¬ j < 0 ∧ j < z) (hv : vs.getD j.toNatClampNeg dv = own_v σ v) (hd : decode bytes pc = .ok (.iaload, 1)) (L : List Slot) (rest : List Value) :
    own_Go p l e R s m args below meth c locs cells slots h (own_f σ m (pc, L, [.int j, .ref B] ++ rest)) (own_f σ m (pc + 1, L, [v] ++ rest)) := fun T X eT => by
  obtain ⟨hx, hZ, hown, hby, -⟩ := C
  obtain ⟨cl, Ar, q1, q2, q3, q4, q5⟩ := V
  have hin := inb_of q2 hj
  exact ⟨T, X, eT, fun t kt => X.iaload hx (by rw [eT]; exact Ar.1) (State.isArrayOf_alike hZ.alike Ar.2.1) Ar.2.2 hin (Has.at q4 hin hv) (g := own_f σ m (pc, L, [Value.int j, Value.ref B] ++ rest)) rfl rfl (hb hby hd) t kt⟩
theorem own_e_len (C : own_Cx p s m c Z own bytes ml) (V : Arv Z h (σ.1 B) ck ty z vs dv) (hd : decode bytes pc = .ok (.arraylength, 1)) (L : List Slot) (rest : List Value) :
    own_Go p l e R s m args below meth c locs cells slots h (own_f σ m (pc, L, [.ref B] ++ rest)) (own_f σ m (pc + 1, L, [.int z] ++ rest)) := fun T X eT => by
  obtain ⟨hx, hZ, hown, hby, -⟩ := C
  obtain ⟨cl, Ar, q1, q2, q3, q4, q5⟩ := V
  refine ⟨T, X, eT, fun t kt => X.arraylength hx (by rw [eT]; exact Ar.1) (State.isArrayOf_alike hZ.alike Ar.2.1) (g := own_f σ m (pc, L, [Value.ref B] ++ rest)) rfl rfl (hb hby hd) t ?_⟩
  rw [len_of q2 q3]; exact kt
theorem own_ok_ite {q : Nat} {a b : List own_E} (A : q = 0 → own_ok p l e R s m args below meth c locs cells slots h σ ml a) (D : q ≠ 0 → own_ok p l e R s m args below meth c locs cells slots h σ ml b) : own_ok p l e R s m args below meth c locs cells slots h σ ml (if q = 0 then a else b) := by
  split
  · rename_i hq; exact A hq
  · rename_i hq; exact D hq
def own_MetF (l : Launch) (Z : State) (y : MethodName) (bytes : ByteArray) (ml : Nat) (t : FieldType) (ws : List Jvm.Cond) (rm : Room) (h0 : Heap) (as : Array Value) (v : Value) : Prop :=
  MetFree l y (head1 (Jvm.Cond.code y bytes ml (some t) :: ws) rm) (fun a U => a = as ∧ Z.Warmed39 U.vm ∧ U.heap = h0) (fun _ _ _ _ _ => True) (fun _ U o U' => ∃ v' L, o = .returned v' ∧ (v' = some v ∧ Fr h0.size L) ∧ FrameEnd U o U' L rm.cells rm.slots)
end OwnFill
def own_eqF (a b : own_F) : Bool := decide (a = b)
theorem own_eqF_spec {a b : own_F} (h : own_eqF a b = true) : a = b := of_decide_eq_true h
/-! J. arrays that stood before -/
theorem own_w_elem {args : Array Value} {s : State} {t u : Term} {a b : Addr} {j : Int32} {cl : Cell} (q : (Cond.eq (Term.elem t (Term.int j)) u).value args s none s [] = some true) (ht : t.eval args s none [] s = some (.ref a)) (hu : u.eval args s none [] s = some (.ref b)) (hc : s.heap[a]? = some cl) : cl.slots[j.toNatClampNeg]? = some (.ref b) := by
  obtain ⟨x, y, h1, h2, k1, k2⟩ := cmp_v (Or.inl q)
  cases hu.symm.trans h2
  have hx : x.isRef = true := k2.2
  have e1 := gotT (eq_R h1 hu hx rfl) q
  subst e1
  exact (elem_in h1 ht (Term.int_eval j) hc).2
theorem own_w_len {args : Array Value} {s : State} {t : Term} {a : Addr} {z : Int32} {cl : Cell} (q : (Cond.eq (Term.length t) (Term.int z)).value args s none s [] = some true) (ht : t.eval args s none [] s = some (.ref a)) (hc : s.heap[a]? = some cl) : cl.slots.size < 2 ^ 31 ∧ cl.slots.size.toInt32 = z := by
  obtain ⟨x, y, h1, h2, k1, k2⟩ := cmp_v (Or.inl q)
  cases (Term.int_eval z).symm.trans h2
  obtain ⟨w, rfl⟩ := k2
  have e0 := gotT (Cond.eq_ints h1 (Term.int_eval z)) q
  subst e0
  obtain ⟨a', cl', e1, e2, e3⟩ := Term.length_spec h1
  cases ht.symm.trans e1
  cases hc.symm.trans (State.arrayAt?_spec e2).1
  exact ⟨Jvm.Free.SBG.length_lt ht e2 h1, (Value.int.inj e3).symm⟩
theorem own_class (c : Int32) (n : Nat) (hn : n < 1000) : ∃ z, z < n + 2 ∧ (z < n → c = Int32.ofNat z) ∧ (z = n → c < 0) ∧ (z = n + 1 → Int32.ofNat n ≤ c) := by
  have e0 : (0 : Int32).toInt = 0 := rfl
  have en : (Int32.ofNat n).toInt = n := Int32.toInt_ofNat_of_lt (by omega)
  by_cases h0 : c.toInt < 0
  · exact ⟨n, by omega, fun q => absurd q (by omega), fun _ => Int32.lt_iff_toInt_lt.mpr (by omega), fun q => absurd q (by omega)⟩
  · by_cases h1 : c.toInt < n
    · obtain ⟨k, hk, e⟩ := own_few c (n := n) (by omega) h1
      exact ⟨k, by omega, fun _ => e, fun q => absurd q (by omega), fun q => absurd q (by omega)⟩
    · exact ⟨n + 1, by omega, fun q => absurd q (by omega), fun q => absurd q (by omega), fun _ => Int32.le_iff_toInt_le.mpr (by omega)⟩
section OwnIf
variable {p : Program} {l : Launch} {e : Env} {R : Room} {s : State} {m : MethodId} {args : Array Value} {below : List Frame} {meth : Method} {c : Code} {locs : List Loc} {cells slots : Nat} {h : Heap} {σ : own_N} {ml : Nat}
theorem own_ok_if {P : Prop} [Decidable P] {a b : List own_E} (A : P → own_ok p l e R s m args below meth c locs cells slots h σ ml a) (D : ¬ P → own_ok p l e R s m args below meth c locs cells slots h σ ml b) : own_ok p l e R s m args below meth c locs cells slots h σ ml (if P then a else b) := by
  split
  · rename_i hq; exact A hq
  · rename_i hq; exact D hq
end OwnIf
theorem own_nlt0 {n : Nat} {v : Int32} (h : Int32.ofNat n ≤ v) (hn : n < 1000 := by decide) : ¬ v < 0 := by
  have e0 : (0 : Int32).toInt = 0 := rfl
  have en : (Int32.ofNat n).toInt = n := Int32.toInt_ofNat_of_lt (by omega)
  rw [Int32.le_iff_toInt_le] at h
  rw [Int32.lt_iff_toInt_lt]
  omega
theorem own_ltn {w n : Nat} {v : Int32} (hw : w < n) (hn : n < 1000) (h : Int32.ofNat n ≤ v) : Int32.ofNat w < v := by
  have ew : (Int32.ofNat w).toInt = w := Int32.toInt_ofNat_of_lt (by omega)
  have en : (Int32.ofNat n).toInt = n := Int32.toInt_ofNat_of_lt (by omega)
  rw [Int32.le_iff_toInt_le] at h
  rw [Int32.lt_iff_toInt_lt]
  omega
theorem own_nk {n z : Nat} {c : Int32} (hz : z < n + 2) (K2 : z = n → c < 0) (K3 : z = n + 1 → Int32.ofNat n ≤ c) (hn : n < 1000) : ¬ z < n → ∀ k, k < n → Int32.ofNat k ≠ c := fun q k hk e => by
  subst e
  have ek : (Int32.ofNat k).toInt = k := Int32.toInt_ofNat_of_lt (by omega)
  have en : (Int32.ofNat n).toInt = n := Int32.toInt_ofNat_of_lt (by omega)
  have e0 : (0 : Int32).toInt = 0 := rfl
  by_cases h1 : z = n
  · have := K2 h1
    rw [Int32.lt_iff_toInt_lt] at this
    omega
  · have := K3 (by omega)
    rw [Int32.le_iff_toInt_le] at this
    omega

/-! the constants: names, classes, fields -/
def own_nm : Nat → String
  | 0 => "NONE"
  | 1 => "X"
  | 2 => "W"
  | 3 => "WX"
  | 4 => "R"
  | 5 => "RX"
  | 6 => "RW"
  | 7 => "RWX"
  | _ => ""
def own_x_ordinal (k : Nat) : Int32 := Int32.ofNat k
def own_W (Z : State) (h : Heap) (σ : own_N) : Prop := (∀ k, k < 8 → Sta Z h "com/example/trastero/trastero/storage/PermissionMode" (own_nm k) "Lcom/example/trastero/trastero/storage/PermissionMode;" (.ref (σ.1 k))) ∧ (∀ k, k < 8 → Exa Z h (σ.1 k) "com/example/trastero/trastero/storage/PermissionMode") ∧ (∀ k, k < 8 → Fld Z h (σ.1 k) "java/lang/Enum" "ordinal" "I" (.int (own_x_ordinal k)))
theorem own_W_ext {Z : State} {h h' : Heap} {σ : own_N} (E : Ext h h') (W : own_W Z h σ) : own_W Z h' σ := ⟨fun k hk => Sta.ext E (W.1 k hk), fun k hk => Exa.ext E (W.2.1 k hk), fun k hk => Fld.ext E (W.2.2 k hk)⟩
theorem own_W_wr {Z : State} {h h' : Heap} {σ : own_N} {a : Addr} {sl : Nat} {v : Value} (Q : Wr h h' a sl v) (hne : ∀ k, k < 8 → σ.1 k ≠ a) (W : own_W Z h σ) : own_W Z h' σ := ⟨fun k hk => Sta.wr Q (W.1 k hk), fun k hk => Exa.wr Q (W.2.1 k hk), fun k hk => Fld.other Q (W.2.2 k hk) (Or.inl (hne k (by omega)))⟩
def own_bits (z0 z1 z2 : Nat) : Int32 := ((Int32.ofNat z0 <<< ((6 : Int32) &&& 31)) ||| (Int32.ofNat z1 <<< ((3 : Int32) &&& 31))) ||| Int32.ofNat z2
/-! body 7: Enum.ordinal -/
def own_pr7 : List (Nat × Instr × Nat) := [(0, .aload_n 0, 1), (1, .getfield 7, 3), (4, .ireturn, 1)]
set_option maxRecDepth 65536 in
set_option maxHeartbeats 40000000 in
theorem own_dc7 : ∀ q ∈ own_pr7, decode jdk_37_method_2_code q.1 = .ok q.2 := by decide +kernel
theorem own_pn7 : plainName "java/lang/Enum" = true := by first | (simp [plainName, overriddenIn]; done) | decide +kernel
theorem own_pd7 : parseMethodDescriptor "()I" = some ⟨[], some .int⟩ := by decide +kernel
def own_tb7 (z0 : Nat) : List own_E := ((List.range 8).map fun k => (1, 4, [.ref k], [.int (own_x_ordinal k)]))
set_option maxRecDepth 65536 in
set_option maxHeartbeats 40000000 in
theorem own_ok7 {p : Program} {l : Launch} {e : Env} {s : State} {m : MethodId} {args : Array Value} {below : List Frame} {meth : Method} {c : Code} {locs : List Loc} {cells slots : Nat} {h : Heap} {σ : own_N} {Z : State} {a0 : Array Value} (hw : ∀ d ∈ tables_1, d.before a0 Z = true) (W : own_W Z h σ) (hi : own_inj σ 0) (C : own_Cx p s m c Z "java/lang/Enum" jdk_37_method_2_code 1) (hcs : cells ≤ Room.cells ({ frames := 0, cells := 0, slots := 0, locals := 0 } : Room) ∧ slots ≤ Room.slots ({ frames := 0, cells := 0, slots := 0, locals := 0 } : Room)) (z0 : Nat) (hz0 : z0 < 8) : own_ok p l e ({ frames := 0, cells := 0, slots := 0, locals := 0 } : Room) s m args below meth c locs cells slots h σ 1 (own_tb7 z0) := own_ok_range (f := fun k => (1, 4, [.ref k], [.int (own_x_ordinal k)])) (fun k hk L rest _ _ => own_e_field (σ := σ) (pc := 1) (k := k) (v := .int (own_x_ordinal k)) C (hw _ (List.mem_of_getElem? (i := 48) rfl)) (W.2.2 k hk) (own_dc7 (1, .getfield 7, 3) (List.mem_of_getElem? (i := 1) rfl)) L rest)
set_option maxRecDepth 65536 in
set_option maxHeartbeats 40000000 in
theorem own_chk7 : ∀ z0, z0 < 8 → own_ends own_pr7 .int (.int (Int32.ofNat z0)) (own_run 0 1 own_pr7 (own_tb7 z0) 99999 400 (0, [.val (.ref z0)], [])) = true := by decide +kernel
theorem own_ef7 (σ : own_N) (m : MethodId) (z0 : Nat) : entryFrame m (([.ref z0] : List Value).map (own_v σ)).toArray 1 = own_f σ m (0, [.val (.ref z0)], []) := by first | rfl | simp [entryFrame, own_f, own_s, own_v, argsToLocals, Value.category]
set_option maxRecDepth 65536 in
set_option maxHeartbeats 40000000 in
theorem own_met7 (l : Launch) (Z : State) (a0 : Array Value) (hw : ∀ d ∈ tables_1, d.before a0 Z = true) (h : Heap) (σ : own_N) (W : own_W Z h σ) (hi : own_inj σ 0) (z0 : Nat) (hz0 : z0 < 8) : own_Met l Z (⟨"java/lang/Enum", "ordinal", "()I"⟩ : MethodName) jdk_37_method_2_code 1 .int [] ({ frames := 0, cells := 0, slots := 0, locals := 0 } : Room) h (([.ref z0] : List Value).map (own_v σ)).toArray (own_v σ (.int (Int32.ofNat z0))) :=
  own_met (plainFor_of_name own_pn7) own_dc7 (own_run 0 1 own_pr7 (own_tb7 z0) 99999 400 (0, [.val (.ref z0)], [])) (own_chk7 z0 hz0) (fun p e s m below meth c C => by rw [own_ef7 σ m z0]; exact own_run_ok C.1 hi (fun q hq => hb C.2.2.2.1 (own_dc7 q hq)) (own_ok7 hw W hi C ⟨Nat.zero_le _, Nat.zero_le _⟩ z0 hz0) _ _ _)
/-! body 6: PermissionMode.bits -/
def own_pr6 : List (Nat × Instr × Nat) := [(0, .aload_n 0, 1), (1, .invokevirtual 59, 3), (4, .ireturn, 1)]
set_option maxRecDepth 65536 in
set_option maxHeartbeats 40000000 in
theorem own_dc6 : ∀ q ∈ own_pr6, decode prog_29_method_5_code q.1 = .ok q.2 := by decide +kernel
theorem own_pn6 : plainName "com/example/trastero/trastero/storage/PermissionMode" = true := by first | (simp [plainName, overriddenIn]; done) | decide +kernel
theorem own_pd6 : parseMethodDescriptor "()I" = some ⟨[], some .int⟩ := by decide +kernel
def own_tb6 (z0 : Nat) : List own_E := ((List.range 8).map fun z0 => (1, 4, [.ref z0], [.int (Int32.ofNat z0)]))
set_option maxRecDepth 65536 in
set_option maxHeartbeats 40000000 in
theorem own_ok6 {p : Program} {l : Launch} {e : Env} {s : State} {m : MethodId} {args : Array Value} {below : List Frame} {meth : Method} {c : Code} {locs : List Loc} {cells slots : Nat} {h : Heap} {σ : own_N} {Z : State} {a0 : Array Value} (hw : ∀ d ∈ tables_1, d.before a0 Z = true) (W : own_W Z h σ) (hi : own_inj σ 0) (C : own_Cx p s m c Z "com/example/trastero/trastero/storage/PermissionMode" prog_29_method_5_code 1) (hcs : cells ≤ Room.cells ({ frames := 1, cells := 0, slots := 0, locals := 20 } : Room) ∧ slots ≤ Room.slots ({ frames := 1, cells := 0, slots := 0, locals := 20 } : Room)) (z0 : Nat) (hz0 : z0 < 8) : own_ok p l e ({ frames := 1, cells := 0, slots := 0, locals := 20 } : Room) s m args below meth c locs cells slots h σ 1 (own_tb6 z0) := own_ok_range (f := fun z0 => (1, 4, [.ref z0], [.int (Int32.ofNat z0)])) (fun z0 hz0 => (fun L rest hL h4 => own_e_callU (σ := σ) (pc := 1) (k := z0) (as := []) (v := .int (Int32.ofNat z0)) C (own_met7 l Z a0 hw h σ W hi z0 hz0) (W.2.1 z0 hz0) (hw _ (List.mem_of_getElem? (i := 41) rfl)) (hw _ (List.mem_of_getElem? (i := 42) rfl)) (hw _ (List.mem_of_getElem? (i := 43) rfl)) (hw _ (List.mem_of_getElem? (i := 44) rfl)) (hw _ (List.mem_of_getElem? (i := 45) rfl)) (hw _ (List.mem_of_getElem? (i := 46) rfl)) (hw _ (List.mem_of_getElem? (i := 47) rfl)) (by decide) own_pd7 rfl ⟨by decide, by decide, rfl, rfl, hcs.1, hcs.2⟩ (own_dc6 (1, .invokevirtual 59, 3) (List.mem_of_getElem? (i := 1) rfl)) L rest hL h4))
set_option maxRecDepth 65536 in
set_option maxHeartbeats 40000000 in
theorem own_chk6 : ∀ z0, z0 < 8 → own_ends own_pr6 .int (.int (Int32.ofNat z0)) (own_run 0 1 own_pr6 (own_tb6 z0) 99999 400 (0, [.val (.ref z0)], [])) = true := by decide +kernel
theorem own_ef6 (σ : own_N) (m : MethodId) (z0 : Nat) : entryFrame m (([.ref z0] : List Value).map (own_v σ)).toArray 1 = own_f σ m (0, [.val (.ref z0)], []) := by first | rfl | simp [entryFrame, own_f, own_s, own_v, argsToLocals, Value.category]
set_option maxRecDepth 65536 in
set_option maxHeartbeats 40000000 in
theorem own_met6 (l : Launch) (Z : State) (a0 : Array Value) (hw : ∀ d ∈ tables_1, d.before a0 Z = true) (h : Heap) (σ : own_N) (W : own_W Z h σ) (hi : own_inj σ 0) (z0 : Nat) (hz0 : z0 < 8) : own_Met l Z (⟨"com/example/trastero/trastero/storage/PermissionMode", "bits", "()I"⟩ : MethodName) prog_29_method_5_code 1 .int [] ({ frames := 1, cells := 0, slots := 0, locals := 20 } : Room) h (([.ref z0] : List Value).map (own_v σ)).toArray (own_v σ (.int (Int32.ofNat z0))) :=
  own_met (plainFor_of_name own_pn6) own_dc6 (own_run 0 1 own_pr6 (own_tb6 z0) 99999 400 (0, [.val (.ref z0)], [])) (own_chk6 z0 hz0) (fun p e s m below meth c C => by rw [own_ef6 σ m z0]; exact own_run_ok C.1 hi (fun q hq => hb C.2.2.2.1 (own_dc6 q hq)) (own_ok6 hw W hi C ⟨Nat.zero_le _, Nat.zero_le _⟩ z0 hz0) _ _ _)
/-! body 5: Mode.bits -/
def own_pr5 : List (Nat × Instr × Nat) := [(0, .aload_n 0, 1), (1, .getfield 7, 3), (4, .invokevirtual 80, 3), (7, .bipush 6, 2), (9, .ishl, 1), (10, .aload_n 0, 1), (11, .getfield 13, 3), (14, .invokevirtual 80, 3), (17, .iconst 3, 1), (18, .ishl, 1), (19, .ior, 1), (20, .aload_n 0, 1), (21, .getfield 16, 3), (24, .invokevirtual 80, 3), (27, .ior, 1), (28, .ireturn, 1)]
set_option maxRecDepth 65536 in
set_option maxHeartbeats 40000000 in
theorem own_dc5 : ∀ q ∈ own_pr5, decode prog_27_method_5_code q.1 = .ok q.2 := by decide +kernel
theorem own_pn5 : plainName "com/example/trastero/trastero/storage/Mode" = true := by first | (simp [plainName, overriddenIn]; done) | decide +kernel
theorem own_pd5 : parseMethodDescriptor "()I" = some ⟨[], some .int⟩ := by decide +kernel
def own_tb5 (z0 : Nat) (z1 : Nat) (z2 : Nat) : List own_E := [(1, 4, [.ref 8], [.ref z0])] ++ (((List.range 8).map fun z0 => (4, 7, [.ref z0], [.int (Int32.ofNat z0)])) ++ ([(11, 14, [.ref 8], [.ref z1])] ++ (((List.range 8).map fun z0 => (14, 17, [.ref z0], [.int (Int32.ofNat z0)])) ++ ([(21, 24, [.ref 8], [.ref z2])] ++ (((List.range 8).map fun z0 => (24, 27, [.ref z0], [.int (Int32.ofNat z0)])))))))
set_option maxRecDepth 65536 in
set_option maxHeartbeats 40000000 in
theorem own_ok5 {p : Program} {l : Launch} {e : Env} {s : State} {m : MethodId} {args : Array Value} {below : List Frame} {meth : Method} {c : Code} {locs : List Loc} {cells slots : Nat} {h : Heap} {σ : own_N} {Z : State} {a0 : Array Value} (hw : ∀ d ∈ tables_1, d.before a0 Z = true) (W : own_W Z h σ) (hi : own_inj σ 0) (C : own_Cx p s m c Z "com/example/trastero/trastero/storage/Mode" prog_27_method_5_code 1) (hcs : cells ≤ Room.cells ({ frames := 2, cells := 0, slots := 0, locals := 40 } : Room) ∧ slots ≤ Room.slots ({ frames := 2, cells := 0, slots := 0, locals := 40 } : Room)) (z0 : Nat) (hz0 : z0 < 8) (z1 : Nat) (hz1 : z1 < 8) (z2 : Nat) (hz2 : z2 < 8) (HO : Fld Z h (σ.1 8) "com/example/trastero/trastero/storage/Mode" "owner" "Lcom/example/trastero/trastero/storage/PermissionMode;" (.ref (σ.1 z0))) (HG : Fld Z h (σ.1 8) "com/example/trastero/trastero/storage/Mode" "group" "Lcom/example/trastero/trastero/storage/PermissionMode;" (.ref (σ.1 z1))) (HT : Fld Z h (σ.1 8) "com/example/trastero/trastero/storage/Mode" "other" "Lcom/example/trastero/trastero/storage/PermissionMode;" (.ref (σ.1 z2))) : own_ok p l e ({ frames := 2, cells := 0, slots := 0, locals := 40 } : Room) s m args below meth c locs cells slots h σ 1 (own_tb5 z0 z1 z2) := own_ok_app (own_ok_cons (fun L rest _ _ => own_e_field (k := 8) (v := .ref z0) C (hw _ (List.mem_of_getElem? (i := 25) rfl)) HO (own_dc5 (1, .getfield 7, 3) (List.mem_of_getElem? (i := 1) rfl)) L rest) own_ok_nil) (own_ok_app (own_ok_range (f := fun z0 => (4, 7, [.ref z0], [.int (Int32.ofNat z0)])) (fun z0 hz0 => (fun L rest hL h4 => own_e_callV (σ := σ) (pc := 4) (k := z0) (as := []) (v := .int (Int32.ofNat z0)) C (own_met6 l Z a0 hw h σ W hi z0 hz0) (W.2.1 z0 hz0) (hw _ (List.mem_of_getElem? (i := 36) rfl)) (hw _ (List.mem_of_getElem? (i := 37) rfl)) (hw _ (List.mem_of_getElem? (i := 38) rfl)) (hw _ (List.mem_of_getElem? (i := 39) rfl)) (hw _ (List.mem_of_getElem? (i := 8) rfl)) (hw _ (List.mem_of_getElem? (i := 40) rfl)) (by decide) own_pd6 rfl ⟨by decide, by decide, rfl, rfl, hcs.1, hcs.2⟩ (own_dc5 (4, .invokevirtual 80, 3) (List.mem_of_getElem? (i := 2) rfl)) L rest hL h4))) (own_ok_app (own_ok_cons (fun L rest _ _ => own_e_field (k := 8) (v := .ref z1) C (hw _ (List.mem_of_getElem? (i := 27) rfl)) HG (own_dc5 (11, .getfield 13, 3) (List.mem_of_getElem? (i := 6) rfl)) L rest) own_ok_nil) (own_ok_app (own_ok_range (f := fun z0 => (14, 17, [.ref z0], [.int (Int32.ofNat z0)])) (fun z0 hz0 => (fun L rest hL h4 => own_e_callV (σ := σ) (pc := 14) (k := z0) (as := []) (v := .int (Int32.ofNat z0)) C (own_met6 l Z a0 hw h σ W hi z0 hz0) (W.2.1 z0 hz0) (hw _ (List.mem_of_getElem? (i := 36) rfl)) (hw _ (List.mem_of_getElem? (i := 37) rfl)) (hw _ (List.mem_of_getElem? (i := 38) rfl)) (hw _ (List.mem_of_getElem? (i := 39) rfl)) (hw _ (List.mem_of_getElem? (i := 8) rfl)) (hw _ (List.mem_of_getElem? (i := 40) rfl)) (by decide) own_pd6 rfl ⟨by decide, by decide, rfl, rfl, hcs.1, hcs.2⟩ (own_dc5 (14, .invokevirtual 80, 3) (List.mem_of_getElem? (i := 7) rfl)) L rest hL h4))) (own_ok_app (own_ok_cons (fun L rest _ _ => own_e_field (k := 8) (v := .ref z2) C (hw _ (List.mem_of_getElem? (i := 29) rfl)) HT (own_dc5 (21, .getfield 16, 3) (List.mem_of_getElem? (i := 12) rfl)) L rest) own_ok_nil) (own_ok_range (f := fun z0 => (24, 27, [.ref z0], [.int (Int32.ofNat z0)])) (fun z0 hz0 => (fun L rest hL h4 => own_e_callV (σ := σ) (pc := 24) (k := z0) (as := []) (v := .int (Int32.ofNat z0)) C (own_met6 l Z a0 hw h σ W hi z0 hz0) (W.2.1 z0 hz0) (hw _ (List.mem_of_getElem? (i := 36) rfl)) (hw _ (List.mem_of_getElem? (i := 37) rfl)) (hw _ (List.mem_of_getElem? (i := 38) rfl)) (hw _ (List.mem_of_getElem? (i := 39) rfl)) (hw _ (List.mem_of_getElem? (i := 8) rfl)) (hw _ (List.mem_of_getElem? (i := 40) rfl)) (by decide) own_pd6 rfl ⟨by decide, by decide, rfl, rfl, hcs.1, hcs.2⟩ (own_dc5 (24, .invokevirtual 80, 3) (List.mem_of_getElem? (i := 13) rfl)) L rest hL h4)))))))
set_option maxRecDepth 65536 in
set_option maxHeartbeats 40000000 in
theorem own_chk5 : ∀ z0, z0 < 8 → ∀ z1, z1 < 8 → ∀ z2, z2 < 8 → own_ends own_pr5 .int (.int (own_bits z0 z1 z2)) (own_run 0 1 own_pr5 (own_tb5 z0 z1 z2) 99999 400 (0, [.val (.ref 8)], [])) = true := by decide +kernel
theorem own_ef5 (σ : own_N) (m : MethodId) (z0 : Nat) (z1 : Nat) (z2 : Nat) : entryFrame m (([.ref 8] : List Value).map (own_v σ)).toArray 1 = own_f σ m (0, [.val (.ref 8)], []) := by first | rfl | simp [entryFrame, own_f, own_s, own_v, argsToLocals, Value.category]
set_option maxRecDepth 65536 in
set_option maxHeartbeats 40000000 in
theorem own_met5 (l : Launch) (Z : State) (a0 : Array Value) (hw : ∀ d ∈ tables_1, d.before a0 Z = true) (h : Heap) (σ : own_N) (W : own_W Z h σ) (hi : own_inj σ 0) (z0 : Nat) (hz0 : z0 < 8) (z1 : Nat) (hz1 : z1 < 8) (z2 : Nat) (hz2 : z2 < 8) (HO : Fld Z h (σ.1 8) "com/example/trastero/trastero/storage/Mode" "owner" "Lcom/example/trastero/trastero/storage/PermissionMode;" (.ref (σ.1 z0))) (HG : Fld Z h (σ.1 8) "com/example/trastero/trastero/storage/Mode" "group" "Lcom/example/trastero/trastero/storage/PermissionMode;" (.ref (σ.1 z1))) (HT : Fld Z h (σ.1 8) "com/example/trastero/trastero/storage/Mode" "other" "Lcom/example/trastero/trastero/storage/PermissionMode;" (.ref (σ.1 z2))) : own_Met l Z (⟨"com/example/trastero/trastero/storage/Mode", "bits", "()I"⟩ : MethodName) prog_27_method_5_code 1 .int [] ({ frames := 2, cells := 0, slots := 0, locals := 40 } : Room) h (([.ref 8] : List Value).map (own_v σ)).toArray (own_v σ (.int (own_bits z0 z1 z2))) :=
  own_met (plainFor_of_name own_pn5) own_dc5 (own_run 0 1 own_pr5 (own_tb5 z0 z1 z2) 99999 400 (0, [.val (.ref 8)], [])) (own_chk5 z0 hz0 z1 hz1 z2 hz2) (fun p e s m below meth c C => by rw [own_ef5 σ m z0 z1 z2]; exact own_run_ok C.1 hi (fun q hq => hb C.2.2.2.1 (own_dc5 q hq)) (own_ok5 hw W hi C ⟨Nat.zero_le _, Nat.zero_le _⟩ z0 hz0 z1 hz1 z2 hz2 HO HG HT) _ _ _)
/-! body 1: ModeBitsPinLaw.pick -/
def own_pr1 : List (Nat × Instr × Nat) := [(0, .iload_n 0, 1), (1, .ifCond .ne 7, 3), (4, .getstatic 7, 3), (7, .areturn, 1), (8, .iload_n 0, 1), (9, .iconst 1, 1), (10, .if_icmp .ne 7, 3), (13, .getstatic 13, 3), (16, .areturn, 1), (17, .iload_n 0, 1), (18, .iconst 2, 1), (19, .if_icmp .ne 7, 3), (22, .getstatic 16, 3), (25, .areturn, 1), (26, .iload_n 0, 1), (27, .iconst 3, 1), (28, .if_icmp .ne 7, 3), (31, .getstatic 19, 3), (34, .areturn, 1), (35, .iload_n 0, 1), (36, .iconst 4, 1), (37, .if_icmp .ne 7, 3), (40, .getstatic 22, 3), (43, .areturn, 1), (44, .iload_n 0, 1), (45, .iconst 5, 1), (46, .if_icmp .ne 7, 3), (49, .getstatic 25, 3), (52, .areturn, 1), (53, .iload_n 0, 1), (54, .bipush 6, 2), (56, .if_icmp .ne 7, 3), (59, .getstatic 28, 3), (62, .areturn, 1), (63, .getstatic 31, 3), (66, .areturn, 1)]
set_option maxRecDepth 65536 in
set_option maxHeartbeats 40000000 in
theorem own_dc1 : ∀ q ∈ own_pr1, decode method_2_code q.1 = .ok q.2 := by decide +kernel
theorem own_pn1 : plainName "com/example/trastero/trastero/storage/ModeBitsPinLaw" = true := by first | (simp [plainName, overriddenIn]; done) | decide +kernel
theorem own_pd1 : parseMethodDescriptor "(I)Lcom/example/trastero/trastero/storage/PermissionMode;" = some ⟨[.int], some (.object "com/example/trastero/trastero/storage/PermissionMode")⟩ := by decide +kernel
def own_tb1 (z0 : Nat) : List own_E := [(4, 7, [], [.ref 0])] ++ ([(13, 16, [], [.ref 1])] ++ ([(22, 25, [], [.ref 2])] ++ ([(31, 34, [], [.ref 3])] ++ ([(40, 43, [], [.ref 4])] ++ ([(49, 52, [], [.ref 5])] ++ ([(59, 62, [], [.ref 6])] ++ ([(63, 66, [], [.ref 7])])))))))
set_option maxRecDepth 65536 in
set_option maxHeartbeats 40000000 in
theorem own_ok1 {p : Program} {l : Launch} {e : Env} {s : State} {m : MethodId} {args : Array Value} {below : List Frame} {meth : Method} {c : Code} {locs : List Loc} {cells slots : Nat} {h : Heap} {σ : own_N} {Z : State} {a0 : Array Value} (hw : ∀ d ∈ tables_1, d.before a0 Z = true) (W : own_W Z h σ) (hi : own_inj σ 0) (C : own_Cx p s m c Z "com/example/trastero/trastero/storage/ModeBitsPinLaw" method_2_code 1) (hcs : cells ≤ Room.cells ({ frames := 0, cells := 0, slots := 0, locals := 0 } : Room) ∧ slots ≤ Room.slots ({ frames := 0, cells := 0, slots := 0, locals := 0 } : Room)) (z0 : Nat) (hz0 : z0 < 8) : own_ok p l e ({ frames := 0, cells := 0, slots := 0, locals := 0 } : Room) s m args below meth c locs cells slots h σ 1 (own_tb1 z0) := own_ok_app (own_ok_cons (fun L rest _ _ => own_e_static (σ := σ) (pc := 4) (v := .ref 0) C (hw _ (List.mem_of_getElem? (i := 7) rfl)) (W.1 0 (by decide)) (own_dc1 (4, .getstatic 7, 3) (List.mem_of_getElem? (i := 2) rfl)) L rest) own_ok_nil) (own_ok_app (own_ok_cons (fun L rest _ _ => own_e_static (σ := σ) (pc := 13) (v := .ref 1) C (hw _ (List.mem_of_getElem? (i := 50) rfl)) (W.1 1 (by decide)) (own_dc1 (13, .getstatic 13, 3) (List.mem_of_getElem? (i := 7) rfl)) L rest) own_ok_nil) (own_ok_app (own_ok_cons (fun L rest _ _ => own_e_static (σ := σ) (pc := 22) (v := .ref 2) C (hw _ (List.mem_of_getElem? (i := 12) rfl)) (W.1 2 (by decide)) (own_dc1 (22, .getstatic 16, 3) (List.mem_of_getElem? (i := 12) rfl)) L rest) own_ok_nil) (own_ok_app (own_ok_cons (fun L rest _ _ => own_e_static (σ := σ) (pc := 31) (v := .ref 3) C (hw _ (List.mem_of_getElem? (i := 10) rfl)) (W.1 3 (by decide)) (own_dc1 (31, .getstatic 19, 3) (List.mem_of_getElem? (i := 17) rfl)) L rest) own_ok_nil) (own_ok_app (own_ok_cons (fun L rest _ _ => own_e_static (σ := σ) (pc := 40) (v := .ref 4) C (hw _ (List.mem_of_getElem? (i := 52) rfl)) (W.1 4 (by decide)) (own_dc1 (40, .getstatic 22, 3) (List.mem_of_getElem? (i := 22) rfl)) L rest) own_ok_nil) (own_ok_app (own_ok_cons (fun L rest _ _ => own_e_static (σ := σ) (pc := 49) (v := .ref 5) C (hw _ (List.mem_of_getElem? (i := 56) rfl)) (W.1 5 (by decide)) (own_dc1 (49, .getstatic 25, 3) (List.mem_of_getElem? (i := 27) rfl)) L rest) own_ok_nil) (own_ok_app (own_ok_cons (fun L rest _ _ => own_e_static (σ := σ) (pc := 59) (v := .ref 6) C (hw _ (List.mem_of_getElem? (i := 58) rfl)) (W.1 6 (by decide)) (own_dc1 (59, .getstatic 28, 3) (List.mem_of_getElem? (i := 32) rfl)) L rest) own_ok_nil) (own_ok_cons (fun L rest _ _ => own_e_static (σ := σ) (pc := 63) (v := .ref 7) C (hw _ (List.mem_of_getElem? (i := 54) rfl)) (W.1 7 (by decide)) (own_dc1 (63, .getstatic 31, 3) (List.mem_of_getElem? (i := 34) rfl)) L rest) own_ok_nil)))))))
set_option maxRecDepth 65536 in
set_option maxHeartbeats 40000000 in
theorem own_chk1 : ∀ z0, z0 < 8 → own_ends own_pr1 (.object "com/example/trastero/trastero/storage/PermissionMode") (.ref z0) (own_run 0 1 own_pr1 (own_tb1 z0) 99999 400 (0, [.val (.int (Int32.ofNat z0))], [])) = true := by decide +kernel
theorem own_ef1 (σ : own_N) (m : MethodId) (z0 : Nat) : entryFrame m (([.int (Int32.ofNat z0)] : List Value).map (own_v σ)).toArray 1 = own_f σ m (0, [.val (.int (Int32.ofNat z0))], []) := by first | rfl | simp [entryFrame, own_f, own_s, own_v, argsToLocals, Value.category]
set_option maxRecDepth 65536 in
set_option maxHeartbeats 40000000 in
theorem own_met1 (l : Launch) (Z : State) (a0 : Array Value) (hw : ∀ d ∈ tables_1, d.before a0 Z = true) (h : Heap) (σ : own_N) (W : own_W Z h σ) (hi : own_inj σ 0) (z0 : Nat) (hz0 : z0 < 8) : own_Met l Z (⟨"com/example/trastero/trastero/storage/ModeBitsPinLaw", "pick", "(I)Lcom/example/trastero/trastero/storage/PermissionMode;"⟩ : MethodName) method_2_code 1 (.object "com/example/trastero/trastero/storage/PermissionMode") [] ({ frames := 0, cells := 0, slots := 0, locals := 0 } : Room) h (([.int (Int32.ofNat z0)] : List Value).map (own_v σ)).toArray (own_v σ (.ref z0)) :=
  own_met (plainFor_of_name own_pn1) own_dc1 (own_run 0 1 own_pr1 (own_tb1 z0) 99999 400 (0, [.val (.int (Int32.ofNat z0))], [])) (own_chk1 z0 hz0) (fun p e s m below meth c C => by rw [own_ef1 σ m z0]; exact own_run_ok C.1 hi (fun q hq => hb C.2.2.2.1 (own_dc1 q hq)) (own_ok1 hw W hi C ⟨Nat.zero_le _, Nat.zero_le _⟩ z0 hz0) _ _ _)
theorem d3_0 : decode jdk_30_method_1_code 0 = .ok (.aload_n 0, 1) := by decide +kernel
theorem d3_1 : decode jdk_30_method_1_code 1 = .ok (.invokespecial 1, 3) := by decide +kernel
theorem d3_4 : decode jdk_30_method_1_code 4 = .ok (.return_, 1) := by decide +kernel
theorem pn_3 : plainName "java/lang/Record" = true := by first | (simp [plainName, overriddenIn]; done) | decide +kernel
theorem ef_3 (m : MethodId) (x0 : Addr) : entryFrame m #[(.ref x0)] 1 = mkF m 0 #[.val (.ref x0)] [] := by first | (simp [entryFrame, mkF, argsToLocals, Value.category]; done) | rfl
def Q3 (Z : State) (a1 : Addr) (h0 : Heap) (n0 : Nat) (v : Option Value) (h : Heap) (L : List Loc) : Prop := v = none ∧ Fr n0 L ∧ h = h0
set_option maxRecDepth 65536 in
set_option maxHeartbeats 40000000 in
theorem rm3 (l : Launch) (Z : State) (a0 : Array Value) (hw : ∀ d ∈ tables_1, d.before a0 Z = true) (ws : List Jvm.Cond) (a1 : Addr) (h0 : Heap) (n0 : Nat) (Z0 : n0 ≤ h0.size) :
    MetFree l (⟨"java/lang/Record", "<init>", "()V"⟩ : MethodName) (head1 (Jvm.Cond.code (⟨"java/lang/Record", "<init>", "()V"⟩ : MethodName) jdk_30_method_1_code 1 none :: ws) ({ frames := 1, cells := 0, slots := 0, locals := 12 } : Room)) (fun a U => a = #[(.ref a1)] ∧ Z.Warmed39 U.vm ∧ U.heap = h0) (fun _ _ _ _ _ => True) (fun _ U o U' => ∃ v L, o = .returned v ∧ Q3 Z a1 h0 n0 v U'.heap L ∧ FrameEnd U o U' L ({ frames := 1, cells := 0, slots := 0, locals := 12 } : Room).cells ({ frames := 1, cells := 0, slots := 0, locals := 12 } : Room).slots) := by
  refine MetFree.of_bodySF (plainFor_of_name pn_3) hisR ?_
  intro p e s m args below meth c s₁ Bd hml0 hP hK
  obtain ⟨rfl, hZ, hh⟩ := hP
  have hx := Bd.exec
  have hby := Bd.bytes
  have hml : c.maxLocals = 1 := hml0
  have hown : s.vm.findClass "java/lang/Record" = some m.cls := findClass_of_methodNamed Bd.named
  have hnm := (name_of_methodNamed Bd.named Bd.method).1
  have X0 : Stand p l e ({ frames := 1, cells := 0, slots := 0, locals := 12 } : Room) s m #[(.ref a1)] below meth c s₁ [] 0 0 := Stand.of_body Bd
  have e0 : s₁.heap = h0 := by rw [← hh, Bd.state]; rfl
  have N0 := Fr.nil n0
  have pre0 : ∀ t, Steps p.tables e below (s₁.setTop (mkF m 0 #[.val (.ref a1)] [])) t → Steps p.tables e below (s₁.setTop (entryFrame m #[(.ref a1)] 1)) t := fun t k => castTop (ef_3 m a1) k
  obtain ⟨T2, X2, e2, st2⟩ := initO X0 hx hZ hown (hw _ (List.mem_of_getElem? (i := 22) rfl)) (hw _ (List.mem_of_getElem? (i := 23) rfl)) (hw _ (List.mem_of_getElem? (i := 24) rfl)) e0 (g := (mkF m 1 #[.val (.ref a1)] [(.ref a1)])) rfl (by rw [hml]; rfl) rfl (hb hby d3_1) (by decide) (W := 0) (by show 2 * 0 + _ ≤ _; exact Nat.le_of_eq rfl) (by decide)
  obtain ⟨fs, hr, hrun, hended, hW, hsame⟩ := X2.leave (v := none) (fun _ => rfl)
  refine ⟨_, _, pre0 _ ?_, hrun, hended, _, _, rfl, ?_, ⟨_, rfl⟩, hW, hsame.mono (by decide) (by decide)⟩
  · show Steps p.tables e below (s₁.setTop (mkF m 0 #[.val (.ref a1)] [])) _
    refine XS.aloadN X0.here hx rfl (hb hby d3_0) rfl rfl ?_
    show Steps p.tables e below (s₁.setTop (mkF m 1 #[.val (.ref a1)] [(.ref a1)])) _
    refine st2 _ ?_
    show Steps p.tables e below (T2.setTop (mkF m 4 #[.val (.ref a1)] [])) _
    exact X2.returnOut hx Bd.returns (hb hby d3_4) hr
  · show Q3 Z a1 h0 n0 _ T2.heap _
    rw [e2]
    exact ⟨rfl, N0, rfl⟩

theorem d2_0 : decode prog_27_method_1_code 0 = .ok (.aload_n 0, 1) := by decide +kernel
theorem d2_1 : decode prog_27_method_1_code 1 = .ok (.invokespecial 1, 3) := by decide +kernel
theorem d2_4 : decode prog_27_method_1_code 4 = .ok (.aload_n 0, 1) := by decide +kernel
theorem d2_5 : decode prog_27_method_1_code 5 = .ok (.aload_n 1, 1) := by decide +kernel
theorem d2_6 : decode prog_27_method_1_code 6 = .ok (.putfield 7, 3) := by decide +kernel
theorem d2_9 : decode prog_27_method_1_code 9 = .ok (.aload_n 0, 1) := by decide +kernel
theorem d2_10 : decode prog_27_method_1_code 10 = .ok (.aload_n 2, 1) := by decide +kernel
theorem d2_11 : decode prog_27_method_1_code 11 = .ok (.putfield 13, 3) := by decide +kernel
theorem d2_14 : decode prog_27_method_1_code 14 = .ok (.aload_n 0, 1) := by decide +kernel
theorem d2_15 : decode prog_27_method_1_code 15 = .ok (.aload_n 3, 1) := by decide +kernel
theorem d2_16 : decode prog_27_method_1_code 16 = .ok (.putfield 16, 3) := by decide +kernel
theorem d2_19 : decode prog_27_method_1_code 19 = .ok (.return_, 1) := by decide +kernel
theorem pn_2 : plainName "com/example/trastero/trastero/storage/Mode" = true := by first | (simp [plainName, overriddenIn]; done) | decide +kernel
theorem pd_2_2 : parseMethodDescriptor "()V" = some ⟨[], none⟩ := by decide +kernel
theorem ef_2 (m : MethodId) (x0 : Addr) (x1 : Addr) (x2 : Addr) (x3 : Addr) : entryFrame m #[(.ref x0), (.ref x1), (.ref x2), (.ref x3)] 4 = mkF m 0 #[.val (.ref x0), .val (.ref x1), .val (.ref x2), .val (.ref x3)] [] := by first | (simp [entryFrame, mkF, argsToLocals, Value.category]; done) | rfl
def Q2 (σ : own_N) (Z : State) (a1 : Addr) (a2 : Addr) (a3 : Addr) (a4 : Addr) (u_owner_a1 : Value) (u_group_a1 : Value) (u_other_a1 : Value) (h0 : Heap) (n0 : Nat) (v : Option Value) (h : Heap) (L : List Loc) : Prop := v = none ∧ Fr n0 L ∧ own_W Z h σ ∧ Exa Z h a1 "com/example/trastero/trastero/storage/Mode" ∧ Fld Z h a1 "com/example/trastero/trastero/storage/Mode" "owner" "Lcom/example/trastero/trastero/storage/PermissionMode;" (.ref a2) ∧ Fld Z h a1 "com/example/trastero/trastero/storage/Mode" "group" "Lcom/example/trastero/trastero/storage/PermissionMode;" (.ref a3) ∧ Fld Z h a1 "com/example/trastero/trastero/storage/Mode" "other" "Lcom/example/trastero/trastero/storage/PermissionMode;" (.ref a4)
set_option maxRecDepth 65536 in
set_option maxHeartbeats 40000000 in
theorem rm2 (σ : own_N) (l : Launch) (Z : State) (a0 : Array Value) (hw : ∀ d ∈ tables_1, d.before a0 Z = true) (ws : List Jvm.Cond) (a1 : Addr) (a2 : Addr) (a3 : Addr) (a4 : Addr) (u_owner_a1 : Value) (u_group_a1 : Value) (u_other_a1 : Value) (h0 : Heap) (n0 : Nat) (Z0 : n0 ≤ h0.size) (W : own_W Z h0 σ) (hne : ∀ k, k < 8 → σ.1 k ≠ a1) (E_a1 : Exa Z h0 a1 "com/example/trastero/trastero/storage/Mode") (F_owner_a1 : Fld Z h0 a1 "com/example/trastero/trastero/storage/Mode" "owner" "Lcom/example/trastero/trastero/storage/PermissionMode;" u_owner_a1) (g_a1 : n0 ≤ a1) (F_group_a1 : Fld Z h0 a1 "com/example/trastero/trastero/storage/Mode" "group" "Lcom/example/trastero/trastero/storage/PermissionMode;" u_group_a1) (F_other_a1 : Fld Z h0 a1 "com/example/trastero/trastero/storage/Mode" "other" "Lcom/example/trastero/trastero/storage/PermissionMode;" u_other_a1) :
    MetFree l (⟨"com/example/trastero/trastero/storage/Mode", "<init>", "(Lcom/example/trastero/trastero/storage/PermissionMode;Lcom/example/trastero/trastero/storage/PermissionMode;Lcom/example/trastero/trastero/storage/PermissionMode;)V"⟩ : MethodName) (head1 (Jvm.Cond.code (⟨"com/example/trastero/trastero/storage/Mode", "<init>", "(Lcom/example/trastero/trastero/storage/PermissionMode;Lcom/example/trastero/trastero/storage/PermissionMode;Lcom/example/trastero/trastero/storage/PermissionMode;)V"⟩ : MethodName) prog_27_method_1_code 4 none :: ws) ({ frames := 2, cells := 0, slots := 0, locals := 24 } : Room)) (fun a U => a = #[(.ref a1), (.ref a2), (.ref a3), (.ref a4)] ∧ Z.Warmed39 U.vm ∧ U.heap = h0) (fun _ _ _ _ _ => True) (fun _ U o U' => ∃ v L, o = .returned v ∧ Q2 σ Z a1 a2 a3 a4 u_owner_a1 u_group_a1 u_other_a1 h0 n0 v U'.heap L ∧ FrameEnd U o U' L ({ frames := 2, cells := 0, slots := 0, locals := 24 } : Room).cells ({ frames := 2, cells := 0, slots := 0, locals := 24 } : Room).slots) := by
  refine MetFree.of_bodySF (plainFor_of_name pn_2) hisR ?_
  intro p e s m args below meth c s₁ Bd hml0 hP hK
  obtain ⟨rfl, hZ, hh⟩ := hP
  have hx := Bd.exec
  have hby := Bd.bytes
  have hml : c.maxLocals = 4 := hml0
  have hown : s.vm.findClass "com/example/trastero/trastero/storage/Mode" = some m.cls := findClass_of_methodNamed Bd.named
  have hnm := (name_of_methodNamed Bd.named Bd.method).1
  have X0 : Stand p l e ({ frames := 2, cells := 0, slots := 0, locals := 24 } : Room) s m #[(.ref a1), (.ref a2), (.ref a3), (.ref a4)] below meth c s₁ [] 0 0 := Stand.of_body Bd
  have e0 : s₁.heap = h0 := by rw [← hh, Bd.state]; rfl
  have N0 := Fr.nil n0
  have pre0 : ∀ t, Steps p.tables e below (s₁.setTop (mkF m 0 #[.val (.ref a1), .val (.ref a2), .val (.ref a3), .val (.ref a4)] [])) t → Steps p.tables e below (s₁.setTop (entryFrame m #[(.ref a1), (.ref a2), (.ref a3), (.ref a4)] 4)) t := fun t k => castTop (ef_2 m a1 a2 a3 a4) k
  obtain ⟨_, _, ⟨T5, L5, k5, n5⟩, -, X5, ⟨Lc5, hQ5, l5, y5, z5⟩, st5⟩ := X0.specialBack hx (y := (⟨"java/lang/Record", "<init>", "()V"⟩ : MethodName)) rfl hown (mvT hZ (hw _ (List.mem_of_getElem? (i := 17) rfl))) (mvT hZ (hw _ (List.mem_of_getElem? (i := 18) rfl))) (mvT hZ (hw _ (List.mem_of_getElem? (i := 21) rfl))) (by decide) (backOf (W := 0) (rm3 l Z a0 hw [] a1 h0 n0 Z0) hZ (hw _ (List.mem_of_getElem? (i := 21) rfl)) (hw _ (List.mem_of_getElem? (i := 20) rfl)) (by decide) (by decide)) (g := (mkF m 1 #[.val (.ref a1), .val (.ref a2), .val (.ref a3), .val (.ref a4)] [(.ref a1)])) rfl (by rw [hml]; rfl) (Steps.refl _) (a := a1) (argsL := []) (rest := []) (lenOf pd_2_2 rfl) rfl (by show 2 * 0 + _ ≤ _; exact Nat.le_of_eq rfl) (hb hby d2_1) (fun _ _ => ⟨rfl, e0, (by decide : 0 + 0 ≤ _), (by decide : 0 + 0 ≤ _)⟩)
  dsimp only [Pt.U, Pt.locs, Pt.cells, Pt.slots] at X5 l5 y5 z5 st5 hQ5
  subst l5 y5 z5
  obtain ⟨rfl, N5q, e5⟩ := hQ5
  have N5 := Fr.app N0 N5q
  obtain ⟨T6, h6, X6, e6, W6, st6⟩ := putF X5 hx hZ hown (host := "") (Or.inl (hw _ (List.mem_of_getElem? (i := 25) rfl))) Via.refl e5 F_owner_a1 E_a1 (Or.inr ⟨(hw _ (List.mem_of_getElem? (i := 26) rfl)), rfl, hnm⟩) (hw _ (List.mem_of_getElem? (i := 1) rfl)) (ty := (.object "com/example/trastero/trastero/storage/PermissionMode")) (by decide) rfl rfl (g := (mkF m 6 #[.val (.ref a1), .val (.ref a2), .val (.ref a3), .val (.ref a4)] [(.ref a2), (.ref a1)])) rfl rfl (hb hby d2_6)
  have Fw6 := F_owner_a1.same W6
  have K6 : Keep h0 h6 [a1] := (Keep.refl h0 [a1]).wr W6 (Or.inl (List.mem_of_getElem? (i := 0) rfl))
  have N6 := Fr.snoc X6 N5 g_a1
  obtain ⟨T7, h7, X7, e7, W7, st7⟩ := putF X6 hx hZ hown (host := "") (Or.inl (hw _ (List.mem_of_getElem? (i := 27) rfl))) Via.refl e6 (F_group_a1.other W6 (Or.inr (slot_ne (Or.inr (hw _ (List.mem_of_getElem? (i := 28) rfl))) (Or.inr (hw _ (List.mem_of_getElem? (i := 26) rfl))) (by decide) (t := (.object "com/example/trastero/trastero/storage/PermissionMode")) (t' := (.object "com/example/trastero/trastero/storage/PermissionMode")) (by decide) (by decide)))) (E_a1.wr W6) (Or.inr ⟨(hw _ (List.mem_of_getElem? (i := 28) rfl)), rfl, hnm⟩) (hw _ (List.mem_of_getElem? (i := 1) rfl)) (ty := (.object "com/example/trastero/trastero/storage/PermissionMode")) (by decide) rfl rfl (g := (mkF m 11 #[.val (.ref a1), .val (.ref a2), .val (.ref a3), .val (.ref a4)] [(.ref a3), (.ref a1)])) rfl rfl (hb hby d2_11)
  have Fw7 := (F_group_a1.other W6 (Or.inr (slot_ne (Or.inr (hw _ (List.mem_of_getElem? (i := 28) rfl))) (Or.inr (hw _ (List.mem_of_getElem? (i := 26) rfl))) (by decide) (t := (.object "com/example/trastero/trastero/storage/PermissionMode")) (t' := (.object "com/example/trastero/trastero/storage/PermissionMode")) (by decide) (by decide)))).same W7
  have K7 : Keep h0 h7 [a1] := K6.wr W7 (Or.inl (List.mem_of_getElem? (i := 0) rfl))
  have N7 := Fr.snoc X7 N6 g_a1
  obtain ⟨T8, h8, X8, e8, W8, st8⟩ := putF X7 hx hZ hown (host := "") (Or.inl (hw _ (List.mem_of_getElem? (i := 29) rfl))) Via.refl e7 ((F_other_a1.other W6 (Or.inr (slot_ne (Or.inr (hw _ (List.mem_of_getElem? (i := 30) rfl))) (Or.inr (hw _ (List.mem_of_getElem? (i := 26) rfl))) (by decide) (t := (.object "com/example/trastero/trastero/storage/PermissionMode")) (t' := (.object "com/example/trastero/trastero/storage/PermissionMode")) (by decide) (by decide)))).other W7 (Or.inr (slot_ne (Or.inr (hw _ (List.mem_of_getElem? (i := 30) rfl))) (Or.inr (hw _ (List.mem_of_getElem? (i := 28) rfl))) (by decide) (t := (.object "com/example/trastero/trastero/storage/PermissionMode")) (t' := (.object "com/example/trastero/trastero/storage/PermissionMode")) (by decide) (by decide)))) ((E_a1.wr W6).wr W7) (Or.inr ⟨(hw _ (List.mem_of_getElem? (i := 30) rfl)), rfl, hnm⟩) (hw _ (List.mem_of_getElem? (i := 1) rfl)) (ty := (.object "com/example/trastero/trastero/storage/PermissionMode")) (by decide) rfl rfl (g := (mkF m 16 #[.val (.ref a1), .val (.ref a2), .val (.ref a3), .val (.ref a4)] [(.ref a4), (.ref a1)])) rfl rfl (hb hby d2_16)
  have Fw8 := ((F_other_a1.other W6 (Or.inr (slot_ne (Or.inr (hw _ (List.mem_of_getElem? (i := 30) rfl))) (Or.inr (hw _ (List.mem_of_getElem? (i := 26) rfl))) (by decide) (t := (.object "com/example/trastero/trastero/storage/PermissionMode")) (t' := (.object "com/example/trastero/trastero/storage/PermissionMode")) (by decide) (by decide)))).other W7 (Or.inr (slot_ne (Or.inr (hw _ (List.mem_of_getElem? (i := 30) rfl))) (Or.inr (hw _ (List.mem_of_getElem? (i := 28) rfl))) (by decide) (t := (.object "com/example/trastero/trastero/storage/PermissionMode")) (t' := (.object "com/example/trastero/trastero/storage/PermissionMode")) (by decide) (by decide)))).same W8
  have K8 : Keep h0 h8 [a1] := K7.wr W8 (Or.inl (List.mem_of_getElem? (i := 0) rfl))
  have N8 := Fr.snoc X8 N7 g_a1
  obtain ⟨fs, hr, hrun, hended, hW, hsame⟩ := X8.leave (v := none) (fun _ => rfl)
  refine ⟨_, _, pre0 _ ?_, hrun, hended, _, _, rfl, ?_, ⟨_, rfl⟩, hW, hsame.mono (by decide) (by decide)⟩
  · show Steps p.tables e below (s₁.setTop (mkF m 0 #[.val (.ref a1), .val (.ref a2), .val (.ref a3), .val (.ref a4)] [])) _
    refine XS.aloadN X0.here hx rfl (hb hby d2_0) rfl rfl ?_
    show Steps p.tables e below (s₁.setTop (mkF m 1 #[.val (.ref a1), .val (.ref a2), .val (.ref a3), .val (.ref a4)] [(.ref a1)])) _
    refine st5.trans ?_
    show Steps p.tables e below (T5.setTop (mkF m 4 #[.val (.ref a1), .val (.ref a2), .val (.ref a3), .val (.ref a4)] [])) _
    refine XS.aloadN X5.here hx rfl (hb hby d2_4) rfl rfl ?_
    show Steps p.tables e below (T5.setTop (mkF m 5 #[.val (.ref a1), .val (.ref a2), .val (.ref a3), .val (.ref a4)] [(.ref a1)])) _
    refine XS.aloadN X5.here hx rfl (hb hby d2_5) rfl rfl ?_
    show Steps p.tables e below (T5.setTop (mkF m 6 #[.val (.ref a1), .val (.ref a2), .val (.ref a3), .val (.ref a4)] [(.ref a2), (.ref a1)])) _
    refine st6 _ ?_
    show Steps p.tables e below (T6.setTop (mkF m 9 #[.val (.ref a1), .val (.ref a2), .val (.ref a3), .val (.ref a4)] [])) _
    refine XS.aloadN X6.here hx rfl (hb hby d2_9) rfl rfl ?_
    show Steps p.tables e below (T6.setTop (mkF m 10 #[.val (.ref a1), .val (.ref a2), .val (.ref a3), .val (.ref a4)] [(.ref a1)])) _
    refine XS.aloadN X6.here hx rfl (hb hby d2_10) rfl rfl ?_
    show Steps p.tables e below (T6.setTop (mkF m 11 #[.val (.ref a1), .val (.ref a2), .val (.ref a3), .val (.ref a4)] [(.ref a3), (.ref a1)])) _
    refine st7 _ ?_
    show Steps p.tables e below (T7.setTop (mkF m 14 #[.val (.ref a1), .val (.ref a2), .val (.ref a3), .val (.ref a4)] [])) _
    refine XS.aloadN X7.here hx rfl (hb hby d2_14) rfl rfl ?_
    show Steps p.tables e below (T7.setTop (mkF m 15 #[.val (.ref a1), .val (.ref a2), .val (.ref a3), .val (.ref a4)] [(.ref a1)])) _
    refine XS.aloadN X7.here hx rfl (hb hby d2_15) rfl rfl ?_
    show Steps p.tables e below (T7.setTop (mkF m 16 #[.val (.ref a1), .val (.ref a2), .val (.ref a3), .val (.ref a4)] [(.ref a4), (.ref a1)])) _
    refine st8 _ ?_
    show Steps p.tables e below (T8.setTop (mkF m 19 #[.val (.ref a1), .val (.ref a2), .val (.ref a3), .val (.ref a4)] [])) _
    exact X8.returnOut hx Bd.returns (hb hby d2_19) hr
  · show Q2 σ Z a1 a2 a3 a4 u_owner_a1 u_group_a1 u_other_a1 h0 n0 _ T8.heap _
    rw [e8]
    exact ⟨rfl, N8, own_W_wr W8 hne (own_W_wr W7 hne (own_W_wr W6 hne W)), ((E_a1.wr W6).wr W7).wr W8, (Fw6.other W7 (Or.inr (slot_ne (Or.inr (hw _ (List.mem_of_getElem? (i := 26) rfl))) (Or.inr (hw _ (List.mem_of_getElem? (i := 28) rfl))) (by decide) (t := (.object "com/example/trastero/trastero/storage/PermissionMode")) (t' := (.object "com/example/trastero/trastero/storage/PermissionMode")) (by decide) (by decide)))).other W8 (Or.inr (slot_ne (Or.inr (hw _ (List.mem_of_getElem? (i := 26) rfl))) (Or.inr (hw _ (List.mem_of_getElem? (i := 30) rfl))) (by decide) (t := (.object "com/example/trastero/trastero/storage/PermissionMode")) (t' := (.object "com/example/trastero/trastero/storage/PermissionMode")) (by decide) (by decide))), Fw7.other W8 (Or.inr (slot_ne (Or.inr (hw _ (List.mem_of_getElem? (i := 28) rfl))) (Or.inr (hw _ (List.mem_of_getElem? (i := 30) rfl))) (by decide) (t := (.object "com/example/trastero/trastero/storage/PermissionMode")) (t' := (.object "com/example/trastero/trastero/storage/PermissionMode")) (by decide) (by decide))), Fw8⟩

def own_pr0 : List (Nat × Instr × Nat) := [(0, .iload_n 0, 1), (1, .bipush 7, 2), (3, .iand, 1), (4, .istore_n 3, 1), (5, .iload_n 1, 1), (6, .bipush 7, 2), (8, .iand, 1), (9, .istore 4, 2), (11, .iload_n 2, 1), (12, .bipush 7, 2), (14, .iand, 1), (15, .istore 5, 2), (17, .new 34, 3), (20, .dup, 1), (21, .iload_n 3, 1), (22, .invokestatic 36, 3), (25, .iload 4, 2), (27, .invokestatic 36, 3), (30, .iload 5, 2), (32, .invokestatic 36, 3), (35, .invokespecial 42, 3), (38, .astore 6, 2), (40, .iload_n 3, 1), (41, .bipush 64, 2), (43, .imul, 1), (44, .iload 4, 2), (46, .bipush 8, 2), (48, .imul, 1), (49, .iadd, 1), (50, .iload 5, 2), (52, .iadd, 1), (53, .istore 7, 2), (55, .aload 6, 2), (57, .invokevirtual 45, 3), (60, .iload 7, 2), (62, .if_icmp .ne 7, 3), (65, .iconst 1, 1), (66, .goto 4, 3), (69, .iconst 0, 1), (70, .ireturn, 1)]
set_option maxRecDepth 65536 in
set_option maxHeartbeats 40000000 in
theorem own_dc0 : ∀ q ∈ own_pr0, decode code q.1 = .ok q.2 := by decide +kernel
theorem own_pn0 : plainName "com/example/trastero/trastero/storage/ModeBitsPinLaw" = true := by first | (simp [plainName, overriddenIn]; done) | decide +kernel
def own_tb0 (z0 z1 z2 : Nat) : List own_E := [(3, 4, [.int 7, .retAddr 0], [.int (Int32.ofNat z0)])] ++ ([(8, 9, [.int 7, .retAddr 1], [.int (Int32.ofNat z1)])] ++ ([(14, 15, [.int 7, .retAddr 2], [.int (Int32.ofNat z2)])] ++ (((List.range 8).map fun z0 => (22, 25, [.int (Int32.ofNat z0)], [.ref z0])) ++ (((List.range 8).map fun z0 => (27, 30, [.int (Int32.ofNat z0)], [.ref z0])) ++ (((List.range 8).map fun z0 => (32, 35, [.int (Int32.ofNat z0)], [.ref z0])))))))
set_option maxRecDepth 65536 in
set_option maxHeartbeats 40000000 in
theorem own_ok0 {p : Program} {l : Launch} {e : Env} {s : State} {m : MethodId} {args : Array Value} {below : List Frame} {meth : Method} {c : Code} {locs : List Loc} {cells slots : Nat} {h : Heap} {σ : own_N} {Z : State} {a0 : Array Value} (hw : ∀ d ∈ tables_1, d.before a0 Z = true) (W : own_W Z h σ) (hi : own_inj σ 0) (C : own_Cx p s m c Z "com/example/trastero/trastero/storage/ModeBitsPinLaw" code 8) (hcs : cells ≤ Room.cells room_1 ∧ slots ≤ Room.slots room_1) (z0 : Nat) (hz0 : z0 < 8) (z1 : Nat) (hz1 : z1 < 8) (z2 : Nat) (hz2 : z2 < 8) (H0 : Int32.ofNat z0 = σ.2 0 &&& 7) (H1 : Int32.ofNat z1 = σ.2 1 &&& 7) (H2 : Int32.ofNat z2 = σ.2 2 &&& 7) : own_ok p l e room_1 s m args below meth c locs cells slots h σ 8 (own_tb0 z0 z1 z2) := own_ok_app (own_ok_cons (fun L rest _ _ => own_e_iand (σ := σ) (pc := 3) (a := .retAddr 0) (b := .int 7) (r := .int (Int32.ofNat z0)) C rfl rfl (congrArg Value.int H0) (own_dc0 (3, .iand, 1) (List.mem_of_getElem? (i := 2) rfl)) L rest) own_ok_nil) (own_ok_app (own_ok_cons (fun L rest _ _ => own_e_iand (σ := σ) (pc := 8) (a := .retAddr 1) (b := .int 7) (r := .int (Int32.ofNat z1)) C rfl rfl (congrArg Value.int H1) (own_dc0 (8, .iand, 1) (List.mem_of_getElem? (i := 6) rfl)) L rest) own_ok_nil) (own_ok_app (own_ok_cons (fun L rest _ _ => own_e_iand (σ := σ) (pc := 14) (a := .retAddr 2) (b := .int 7) (r := .int (Int32.ofNat z2)) C rfl rfl (congrArg Value.int H2) (own_dc0 (14, .iand, 1) (List.mem_of_getElem? (i := 10) rfl)) L rest) own_ok_nil) (own_ok_app (own_ok_range (f := fun z0 => (22, 25, [.int (Int32.ofNat z0)], [.ref z0])) (fun z0 hz0 => (fun L rest hL h4 => own_e_callS (σ := σ) (pc := 22) (as := [.int (Int32.ofNat z0)]) (v := .ref z0) C (own_met1 l Z a0 hw h σ W hi z0 hz0) (hw _ (List.mem_of_getElem? (i := 3) rfl)) (hw _ (List.mem_of_getElem? (i := 4) rfl)) (hw _ (List.mem_of_getElem? (i := 5) rfl)) (hw _ (List.mem_of_getElem? (i := 6) rfl)) (by decide) own_pd1 rfl ⟨by decide, by decide, rfl, rfl, hcs.1, hcs.2⟩ (own_dc0 (22, .invokestatic 36, 3) (List.mem_of_getElem? (i := 15) rfl)) L rest hL h4))) (own_ok_app (own_ok_range (f := fun z0 => (27, 30, [.int (Int32.ofNat z0)], [.ref z0])) (fun z0 hz0 => (fun L rest hL h4 => own_e_callS (σ := σ) (pc := 27) (as := [.int (Int32.ofNat z0)]) (v := .ref z0) C (own_met1 l Z a0 hw h σ W hi z0 hz0) (hw _ (List.mem_of_getElem? (i := 3) rfl)) (hw _ (List.mem_of_getElem? (i := 4) rfl)) (hw _ (List.mem_of_getElem? (i := 5) rfl)) (hw _ (List.mem_of_getElem? (i := 6) rfl)) (by decide) own_pd1 rfl ⟨by decide, by decide, rfl, rfl, hcs.1, hcs.2⟩ (own_dc0 (27, .invokestatic 36, 3) (List.mem_of_getElem? (i := 17) rfl)) L rest hL h4))) (own_ok_range (f := fun z0 => (32, 35, [.int (Int32.ofNat z0)], [.ref z0])) (fun z0 hz0 => (fun L rest hL h4 => own_e_callS (σ := σ) (pc := 32) (as := [.int (Int32.ofNat z0)]) (v := .ref z0) C (own_met1 l Z a0 hw h σ W hi z0 hz0) (hw _ (List.mem_of_getElem? (i := 3) rfl)) (hw _ (List.mem_of_getElem? (i := 4) rfl)) (hw _ (List.mem_of_getElem? (i := 5) rfl)) (hw _ (List.mem_of_getElem? (i := 6) rfl)) (by decide) own_pd1 rfl ⟨by decide, by decide, rfl, rfl, hcs.1, hcs.2⟩ (own_dc0 (32, .invokestatic 36, 3) (List.mem_of_getElem? (i := 19) rfl)) L rest hL h4)))))))
def own_tbB (z0 z1 z2 : Nat) : List own_E := own_tb0 z0 z1 z2 ++ [(57, 60, [.ref 8], [.int (own_bits z0 z1 z2)])]
set_option maxRecDepth 65536 in
set_option maxHeartbeats 40000000 in
theorem own_okB {p : Program} {l : Launch} {e : Env} {s : State} {m : MethodId} {args : Array Value} {below : List Frame} {meth : Method} {c : Code} {locs : List Loc} {cells slots : Nat} {h : Heap} {σ : own_N} {Z : State} {a0 : Array Value} (hw : ∀ d ∈ tables_1, d.before a0 Z = true) (W : own_W Z h σ) (hi : own_inj σ 0) (C : own_Cx p s m c Z "com/example/trastero/trastero/storage/ModeBitsPinLaw" code 8) (hcs : cells ≤ Room.cells room_1 ∧ slots ≤ Room.slots room_1) (HE : Exa Z h (σ.1 8) "com/example/trastero/trastero/storage/Mode") (z0 : Nat) (hz0 : z0 < 8) (z1 : Nat) (hz1 : z1 < 8) (z2 : Nat) (hz2 : z2 < 8) (HO : Fld Z h (σ.1 8) "com/example/trastero/trastero/storage/Mode" "owner" "Lcom/example/trastero/trastero/storage/PermissionMode;" (.ref (σ.1 z0))) (HG : Fld Z h (σ.1 8) "com/example/trastero/trastero/storage/Mode" "group" "Lcom/example/trastero/trastero/storage/PermissionMode;" (.ref (σ.1 z1))) (HT : Fld Z h (σ.1 8) "com/example/trastero/trastero/storage/Mode" "other" "Lcom/example/trastero/trastero/storage/PermissionMode;" (.ref (σ.1 z2))) (H0 : Int32.ofNat z0 = σ.2 0 &&& 7) (H1 : Int32.ofNat z1 = σ.2 1 &&& 7) (H2 : Int32.ofNat z2 = σ.2 2 &&& 7) : own_ok p l e room_1 s m args below meth c locs cells slots h σ 8 (own_tbB z0 z1 z2) := own_ok_app (own_ok0 hw W hi C hcs z0 hz0 z1 hz1 z2 hz2 H0 H1 H2) (own_ok_cons (fun L rest hL h4 => own_e_callV (k := 8) (as := []) C (own_met5 l Z a0 hw h σ W hi z0 hz0 z1 hz1 z2 hz2 HO HG HT) HE (hw _ (List.mem_of_getElem? (i := 31) rfl)) (hw _ (List.mem_of_getElem? (i := 32) rfl)) (hw _ (List.mem_of_getElem? (i := 33) rfl)) (hw _ (List.mem_of_getElem? (i := 34) rfl)) (hw _ (List.mem_of_getElem? (i := 2) rfl)) (hw _ (List.mem_of_getElem? (i := 35) rfl)) (by decide) own_pd5 rfl ⟨by decide, by decide, rfl, rfl, hcs.1, hcs.2⟩ (own_dc0 (57, .invokevirtual 45, 3) (List.mem_of_getElem? (i := 33) rfl)) L rest hL h4) own_ok_nil)
set_option maxRecDepth 65536 in
set_option maxHeartbeats 40000000 in
theorem own_sg1 : ∀ z0, z0 < 8 → ∀ z1, z1 < 8 → ∀ z2, z2 < 8 → own_eqF (own_run 0 8 own_pr0 (own_tb0 z0 z1 z2) 17 200 (0, [.val (.retAddr 0), .val (.retAddr 1), .val (.retAddr 2), .unset, .unset, .unset, .unset, .unset], [])) (17, [.val (.retAddr 0), .val (.retAddr 1), .val (.retAddr 2), .val (.int (Int32.ofNat z0)), .val (.int (Int32.ofNat z1)), .val (.int (Int32.ofNat z2)), .unset, .unset], []) = true := by decide +kernel
set_option maxRecDepth 65536 in
set_option maxHeartbeats 40000000 in
theorem own_sg2 : ∀ z0, z0 < 8 → ∀ z1, z1 < 8 → ∀ z2, z2 < 8 → own_eqF (own_run 0 8 own_pr0 (own_tb0 z0 z1 z2) 35 200 (20, [.val (.retAddr 0), .val (.retAddr 1), .val (.retAddr 2), .val (.int (Int32.ofNat z0)), .val (.int (Int32.ofNat z1)), .val (.int (Int32.ofNat z2)), .unset, .unset], [.ref 8])) (35, [.val (.retAddr 0), .val (.retAddr 1), .val (.retAddr 2), .val (.int (Int32.ofNat z0)), .val (.int (Int32.ofNat z1)), .val (.int (Int32.ofNat z2)), .unset, .unset], [.ref z2, .ref z1, .ref z0, .ref 8, .ref 8]) = true := by decide +kernel
set_option maxRecDepth 65536 in
set_option maxHeartbeats 40000000 in
theorem own_chk0 : ∀ z0, z0 < 8 → ∀ z1, z1 < 8 → ∀ z2, z2 < 8 → own_ends own_pr0 .boolean (.int 1) (own_run 0 8 own_pr0 (own_tbB z0 z1 z2) 99999 200 (38, [.val (.retAddr 0), .val (.retAddr 1), .val (.retAddr 2), .val (.int (Int32.ofNat z0)), .val (.int (Int32.ofNat z1)), .val (.int (Int32.ofNat z2)), .unset, .unset], [.ref 8])) = true := by decide +kernel
theorem own_ef0 (σ : own_N) (m : MethodId) : entryFrame m (([.retAddr 0, .retAddr 1, .retAddr 2] : List Value).map (own_v σ)).toArray 8 = own_f σ m (0, [.val (.retAddr 0), .val (.retAddr 1), .val (.retAddr 2), .unset, .unset, .unset, .unset, .unset], []) := by first | rfl | simp [entryFrame, own_f, own_s, own_v, argsToLocals, Value.category]
theorem own_pd2 : parseMethodDescriptor "(Lcom/example/trastero/trastero/storage/PermissionMode;Lcom/example/trastero/trastero/storage/PermissionMode;Lcom/example/trastero/trastero/storage/PermissionMode;)V" = some ⟨[(.object "com/example/trastero/trastero/storage/PermissionMode"), (.object "com/example/trastero/trastero/storage/PermissionMode"), (.object "com/example/trastero/trastero/storage/PermissionMode")], none⟩ := by decide +kernel
set_option maxRecDepth 65536 in
set_option maxHeartbeats 40000000 in
theorem own_met0 (l : Launch) (Z : State) (a0 : Array Value) (hw : ∀ d ∈ tables_1, d.before a0 Z = true) (h : Heap) (σ : own_N) (W : own_W Z h σ) (hi : own_inj σ 0) (hB : σ.1 8 = h.size) (z0 : Nat) (hz0 : z0 < 8) (z1 : Nat) (hz1 : z1 < 8) (z2 : Nat) (hz2 : z2 < 8) (H0 : Int32.ofNat z0 = σ.2 0 &&& 7) (H1 : Int32.ofNat z1 = σ.2 1 &&& 7) (H2 : Int32.ofNat z2 = σ.2 2 &&& 7) : own_MetF l Z x code 8 .boolean tables_1 room_1 h (([.retAddr 0, .retAddr 1, .retAddr 2] : List Value).map (own_v σ)).toArray (own_v σ (.int 1)) := by
  refine MetFree.of_bodySF (plainFor_of_name own_pn0) hisR ?_
  intro p e s m args below meth c s₁ Bd hml0 hP hK
  obtain ⟨rfl, hZ, hh⟩ := hP
  have hx := Bd.exec
  have hby := Bd.bytes
  have hown : s.vm.findClass "com/example/trastero/trastero/storage/ModeBitsPinLaw" = some m.cls := findClass_of_methodNamed Bd.named
  have C : own_Cx p s m c Z "com/example/trastero/trastero/storage/ModeBitsPinLaw" code 8 := ⟨hx, hZ, hown, hby, hml0⟩
  have X0 : Stand p l e room_1 s m _ below meth c s₁ [] 0 0 := Stand.of_body Bd
  have e0 : s₁.heap = h := by rw [← hh, Bd.state]; rfl
  have hpr : ∀ q ∈ own_pr0, decode c.code q.1 = .ok q.2 := fun q hq => hb hby (own_dc0 q hq)
  have hne : ∀ k, k < 8 → σ.1 k ≠ σ.1 8 := fun k hk => by rw [hB]; exact Nat.ne_of_lt (W.2.1 k hk).lt
  obtain ⟨Ta, Xa, ea, sa⟩ := own_run_ok (n := 0) (ml := 8) (tb := own_tb0 z0 z1 z2) hx hi hpr (own_ok0 hw W hi C ⟨by decide, by decide⟩ z0 hz0 z1 hz1 z2 hz2 H0 H1 H2) 17 200 (0, [.val (.retAddr 0), .val (.retAddr 1), .val (.retAddr 2), .unset, .unset, .unset, .unset, .unset], []) s₁ X0 e0
  rw [own_eqF_spec (own_sg1 z0 hz0 z1 hz1 z2 hz2)] at sa
  obtain ⟨T1, h1, X1, e1, E1, A1, D1, -, st1⟩ := newO Xa hx hZ hown (hw _ (List.mem_of_getElem? (i := 0) rfl)) (hw _ (List.mem_of_getElem? (i := 1) rfl)) (hw _ (List.mem_of_getElem? (i := 2) rfl)) ea (g := own_f σ m (17, [.val (.retAddr 0), .val (.retAddr 1), .val (.retAddr 2), .val (.int (Int32.ofNat z0)), .val (.int (Int32.ofNat z1)), .val (.int (Int32.ofNat z2)), .unset, .unset], [])) rfl (hb hby (own_dc0 (17, .new 34, 3) (List.mem_of_getElem? (i := 12) rfl))) (by decide) (by decide)
  rw [← hB] at A1 D1 st1
  have F_owner : Fld Z h1 (σ.1 8) "com/example/trastero/trastero/storage/Mode" "owner" "Lcom/example/trastero/trastero/storage/PermissionMode;" .null := D1 (Or.inr (hw _ (List.mem_of_getElem? (i := 26) rfl))) (ty := .object "com/example/trastero/trastero/storage/PermissionMode") (by decide)
  have F_group : Fld Z h1 (σ.1 8) "com/example/trastero/trastero/storage/Mode" "group" "Lcom/example/trastero/trastero/storage/PermissionMode;" .null := D1 (Or.inr (hw _ (List.mem_of_getElem? (i := 28) rfl))) (ty := .object "com/example/trastero/trastero/storage/PermissionMode") (by decide)
  have F_other : Fld Z h1 (σ.1 8) "com/example/trastero/trastero/storage/Mode" "other" "Lcom/example/trastero/trastero/storage/PermissionMode;" .null := D1 (Or.inr (hw _ (List.mem_of_getElem? (i := 30) rfl))) (ty := .object "com/example/trastero/trastero/storage/PermissionMode") (by decide)
  have W1 := own_W_ext E1 W
  obtain ⟨Tb, Xb, eb, sb⟩ := own_run_ok (n := 0) (ml := 8) (tb := own_tb0 z0 z1 z2) hx hi hpr (own_ok0 hw W1 hi C ⟨by decide, by decide⟩ z0 hz0 z1 hz1 z2 hz2 H0 H1 H2) 35 200 (20, [.val (.retAddr 0), .val (.retAddr 1), .val (.retAddr 2), .val (.int (Int32.ofNat z0)), .val (.int (Int32.ofNat z1)), .val (.int (Int32.ofNat z2)), .unset, .unset], [.ref 8]) T1 X1 e1
  rw [own_eqF_spec (own_sg2 z0 hz0 z1 hz1 z2 hz2)] at sb
  have hge : h.size ≤ σ.1 8 := Nat.le_of_eq hB.symm
  obtain ⟨_, _, ⟨Tc, Lc, kc, nc⟩, -, Xc, ⟨Lq, hQ, l1, y1, q1⟩, stc⟩ := Xb.specialBack hx (y := (⟨"com/example/trastero/trastero/storage/Mode", "<init>", "(Lcom/example/trastero/trastero/storage/PermissionMode;Lcom/example/trastero/trastero/storage/PermissionMode;Lcom/example/trastero/trastero/storage/PermissionMode;)V"⟩ : MethodName)) rfl hown (mvT hZ (hw _ (List.mem_of_getElem? (i := 14) rfl))) (mvT hZ (hw _ (List.mem_of_getElem? (i := 15) rfl))) (mvT hZ (hw _ (List.mem_of_getElem? (i := 16) rfl))) (by decide) (backOf (W := 1) (rm2 σ l Z a0 hw [] (σ.1 8) (σ.1 z0) (σ.1 z1) (σ.1 z2) .null .null .null h1 h.size (Nat.le_trans hge (Nat.le_of_lt A1.lt)) W1 hne A1 F_owner hge F_group F_other) hZ (hw _ (List.mem_of_getElem? (i := 16) rfl)) (hw _ (List.mem_of_getElem? (i := 2) rfl)) (by decide) (by decide)) (g := own_f σ m (35, [.val (.retAddr 0), .val (.retAddr 1), .val (.retAddr 2), .val (.int (Int32.ofNat z0)), .val (.int (Int32.ofNat z1)), .val (.int (Int32.ofNat z2)), .unset, .unset], [.ref z2, .ref z1, .ref z0, .ref 8, .ref 8])) rfl (by rw [hml0]; rfl) (Steps.refl _) (a := σ.1 8) (argsL := [.ref (σ.1 z0), .ref (σ.1 z1), .ref (σ.1 z2)]) (rest := [.ref (σ.1 8)]) (lenOf own_pd2 rfl) rfl (by show 2 * 0 + _ ≤ _; exact Nat.le_of_eq rfl) (hb hby (own_dc0 (35, .invokespecial 42, 3) (List.mem_of_getElem? (i := 20) rfl))) (fun _ _ => ⟨rfl, eb, Nat.le_of_ble_eq_true rfl, Nat.le_of_ble_eq_true rfl⟩)
  dsimp only [Pt.U, Pt.locs, Pt.cells, Pt.slots] at Xc l1 y1 q1 stc hQ
  subst l1 y1 q1
  obtain ⟨rfl, N2, W2, HE, HO, HG, HT⟩ := hQ
  have NF := Fr.app (Fr.nil h.size) N2
  obtain ⟨Tf, Xf, ef, sf⟩ := own_run_ok (n := 0) (ml := 8) (tb := own_tbB z0 z1 z2) hx hi hpr (own_okB hw W2 hi C ⟨by decide, by decide⟩ HE z0 hz0 z1 hz1 z2 hz2 HO HG HT H0 H1 H2) 99999 200 (38, [.val (.retAddr 0), .val (.retAddr 1), .val (.retAddr 2), .val (.int (Int32.ofNat z0)), .val (.int (Int32.ofNat z1)), .val (.int (Int32.ofNat z2)), .unset, .unset], [.ref 8]) Tc Xc rfl
  obtain ⟨fs, hr, hrun, hended, hWW, hsame⟩ := Xf.leave (v := some (own_v σ (.int 1))) (fun h => by rw [Bd.returns] at h; cases h)
  refine ⟨_, _, castTop (own_ef0 σ m) ?_, hrun, hended, _, _, rfl, ⟨rfl, NF⟩, ⟨_, rfl⟩, hWW, hsame.mono (by decide) (by decide)⟩
  refine sa _ (st1 _ (sb _ (stc.trans (sf _ ?_))))
  exact own_fin Xf hx Bd.returns hby own_dc0 _ (own_chk0 z0 hz0 z1 hz1 z2 hz2) hr
/-! from the case's words to the law's run; the owed theorems -/
set_option maxRecDepth 65536 in
set_option maxHeartbeats 40000000 in
theorem own_comes {Post : Tables → Env → Array Value → State → Outcome → State → Prop} (hpost : ∀ tb e args s v u, (limb_1_1.after args s (.returned v) u = true ∧ limb_1_2.after args s (.returned v) u = true ∧ True) → FrameEnd s (.returned v) u (Jvm.fieldLocs frame_1_writes args s ++ Jvm.arrayLocs frame_1_arrays args s ++ Jvm.staticLocs frame_1_statics s) 16 128 → Post tb e args s (.returned v) u) :
    ArmFor flags0 classFile x code maxLocals ret World_1 tables_1 room_1 Calls_1 rest_1 Pre_1 Post := by
  intro l hfl _ _ p e ha hc hk s m args below hf hA hF happ hP
  obtain ⟨hcalls, hrest, hpre⟩ := hP
  obtain ⟨-, -, -, hnamed, -, -, -, hat⟩ := (Spec.applies_iff hf).mp happ
  obtain ⟨hg, hn⟩ := and_e (Cond.before_iff.mp (show (Jvm.Cond.and given_1 narrow_1).before args s = true from hpre))
  obtain ⟨gc, gr⟩ := and_e hg
  obtain ⟨gi0, gr0⟩ := and_e gr
  obtain ⟨gi1, gr1⟩ := and_e gr0
  have gi2 := gr1
  obtain ⟨w0, w1, w2, rfl⟩ : ∃ w0 w1 w2 : Value, args = #[w0, w1, w2] := by
    have hs : args.size = 3 := by simpa [Cond.value, given_1] using gc
    obtain ⟨L⟩ := args
    match L, hs with
    | [w0, w1, w2], _ => exact ⟨w0, w1, w2, rfl⟩
  obtain ⟨i0, ei0⟩ := is_v gi0
  obtain rfl : w0 = .int i0 := Option.some.inj ei0
  obtain ⟨i1, ei1⟩ := is_v gi1
  obtain rfl : w1 = .int i1 := Option.some.inj ei1
  obtain ⟨i2, ei2⟩ := is_v gi2
  obtain rfl : w2 = .int i2 := Option.some.inj ei2
  have hw := fun d (hd : d ∈ tables_1) => atoms_spec (ws := Jvm.Cond.code x code maxLocals ret :: tables_1) hat d (List.mem_cons_of_mem _ hd)
  obtain ⟨q0, r0⟩ := and_e hn
  obtain ⟨q1, r1⟩ := and_e r0
  obtain ⟨q2, r2⟩ := and_e r1
  obtain ⟨q3, r3⟩ := and_e r2
  obtain ⟨q4, r4⟩ := and_e r3
  obtain ⟨q5, r5⟩ := and_e r4
  obtain ⟨q6, r6⟩ := and_e r5
  obtain ⟨q7, r7⟩ := and_e r6
  obtain ⟨q8, r8⟩ := and_e r7
  obtain ⟨q9, r9⟩ := and_e r8
  obtain ⟨q10, r10⟩ := and_e r9
  obtain ⟨q11, r11⟩ := and_e r10
  obtain ⟨q12, r12⟩ := and_e r11
  obtain ⟨q13, r13⟩ := and_e r12
  obtain ⟨q14, r14⟩ := and_e r13
  have q15 := r14
  obtain ⟨o0, v0, S0, E0⟩ := own_w_sta q0 (hw _ (List.mem_of_getElem? (i := 8) rfl)) (hw _ (List.mem_of_getElem? (i := 9) rfl))
  have F0_ordinal := own_w_fld v0 q3
  obtain ⟨o1, v1, S1, E1⟩ := own_w_sta q6 (hw _ (List.mem_of_getElem? (i := 8) rfl)) (hw _ (List.mem_of_getElem? (i := 51) rfl))
  have F1_ordinal := own_w_fld v1 q8
  obtain ⟨o2, v2, S2, E2⟩ := own_w_sta q2 (hw _ (List.mem_of_getElem? (i := 8) rfl)) (hw _ (List.mem_of_getElem? (i := 13) rfl))
  have F2_ordinal := own_w_fld v2 q5
  obtain ⟨o3, v3, S3, E3⟩ := own_w_sta q1 (hw _ (List.mem_of_getElem? (i := 8) rfl)) (hw _ (List.mem_of_getElem? (i := 11) rfl))
  have F3_ordinal := own_w_fld v3 q4
  obtain ⟨o4, v4, S4, E4⟩ := own_w_sta q7 (hw _ (List.mem_of_getElem? (i := 8) rfl)) (hw _ (List.mem_of_getElem? (i := 53) rfl))
  have F4_ordinal := own_w_fld v4 q9
  obtain ⟨o5, v5, S5, E5⟩ := own_w_sta q12 (hw _ (List.mem_of_getElem? (i := 8) rfl)) (hw _ (List.mem_of_getElem? (i := 57) rfl))
  have F5_ordinal := own_w_fld v5 q13
  obtain ⟨o6, v6, S6, E6⟩ := own_w_sta q14 (hw _ (List.mem_of_getElem? (i := 8) rfl)) (hw _ (List.mem_of_getElem? (i := 59) rfl))
  have F6_ordinal := own_w_fld v6 q15
  obtain ⟨o7, v7, S7, E7⟩ := own_w_sta q10 (hw _ (List.mem_of_getElem? (i := 8) rfl)) (hw _ (List.mem_of_getElem? (i := 55) rfl))
  have F7_ordinal := own_w_fld v7 q11
  obtain ⟨z0, hz0, H0⟩ := own_mask i0 7 (k := 3) (by decide) (by decide)
  obtain ⟨z1, hz1, H1⟩ := own_mask i1 7 (k := 3) (by decide) (by decide)
  obtain ⟨z2, hz2, H2⟩ := own_mask i2 7 (k := 3) (by decide) (by decide)
  let σ : own_N := ⟨fun k => [o0, o1, o2, o3, o4, o5, o6, o7, s.heap.size].getD k 0, fun k => [i0, i1, i2].getD k 0⟩
  have W : own_W s s.heap σ := ⟨fun k hk => match k, hk with | 0, _ => S0 | 1, _ => S1 | 2, _ => S2 | 3, _ => S3 | 4, _ => S4 | 5, _ => S5 | 6, _ => S6 | 7, _ => S7 | k + 8, hk => absurd hk (by omega), fun k hk => match k, hk with | 0, _ => E0 | 1, _ => E1 | 2, _ => E2 | 3, _ => E3 | 4, _ => E4 | 5, _ => E5 | 6, _ => E6 | 7, _ => E7 | k + 8, hk => absurd hk (by omega), fun k hk => match k, hk with | 0, _ => F0_ordinal | 1, _ => F1_ordinal | 2, _ => F2_ordinal | 3, _ => F3_ordinal | 4, _ => F4_ordinal | 5, _ => F5_ordinal | 6, _ => F6_ordinal | 7, _ => F7_ordinal | k + 8, hk => absurd hk (by omega)⟩
  have hi : own_inj σ 0 := fun a b h => absurd h (Nat.not_lt_zero _)
  obtain ⟨n, o, h1, h2, h3, _, L, rfl, ⟨rfl, N⟩, hq⟩ := own_met0 l s _ hw s.heap σ W hi rfl z0 hz0 z1 hz1 z2 hz2 H0.symm H1.symm H2.symm p e ha hc hk s m _ below hf ((Spec.applies_iff_loose hf).mp happ).1 ⟨rfl, State.Warmed39.refl s, rfl⟩ trivial
  refine ⟨n, _, h1, h2, h3, hpost _ _ _ _ _ _ ⟨Cond.after_iff.mpr rfl, Cond.after_iff.mpr (eq_i res_at (Term.int_eval (1)) rfl), trivial⟩ ⟨hq.1, hq.2.1, (hq.2.2.sift fun y hy => Or.inr (N y hy)).mono (by decide) (by decide)⟩⟩
theorem main_1_1 : Claimed_1_1 := own_comes fun _ _ _ _ _ _ h hF => ⟨h.1, hF⟩
theorem main_1_2 : Claimed_1_2 := own_comes fun _ _ _ _ _ _ h hF => ⟨h.2.1, hF⟩
end Jvm.Pilot.@@N@@
namespace Jvm.Pilot.@@N@@
open Jvm Jvm.ClassFile Sem Op Lib Jvm.Free Jvm.Stand Jvm.Pilot.@@N@@.Jvm.D
/-! MADE BY PROGRAM (witnessworld.py) out of the Statement's table words and the real class files: 14 classes; the members and pool entries that the words name. The judged class is class 1, her method 2. -/
namespace start1
open Jvm.ClassFile
def u (s : String) : CpInfo := .utf8 (stringToUtf16 s)
/-- a pool by its gaps: so many unusable entries, then the entry; so many at the end -/
def gap : Nat → List CpInfo → List CpInfo
  | 0, r => r
  | n + 1, r => .unusable :: gap n r
def poolList (es : List (Nat × CpInfo)) (last : Nat) : List CpInfo := es.foldr (fun e r => gap e.1 (e.2 :: r)) (gap last [])
def pool (es : List (Nat × CpInfo)) (last : Nat) : Array CpInfo := ⟨poolList es last⟩
def fileOf (pool : Array CpInfo) (this : Nat) (attrs : Array Attribute := #[]) (ms : Array MethodInfo := #[]) (fl : Nat := 33) (sup : Nat := 0) (ifs : Array Nat := #[]) (fds : Array FieldInfo := #[]) : ClassFile where
  minorVersion := 0
  majorVersion := 65
  constantPool := pool
  accessFlags := fl
  thisClass := this
  superClass := sup
  interfaces := ifs
  fields := fds
  methods := ms
  attributes := attrs
def plain (name : String) (sup : Option ClassId) : Class where
  name := name
  kind := .ordinary
  loader := none
  accessFlags := 33
  super := sup
  interfaces := #[]
  cf := none
  fields := #[]
  methods := #[]
  instanceTypes := #[]
  staticTypes := #[]
  resolved := #[]
  callSites := []
  init := .initialized
  statics := none
  mirror := none

def pool0 : Array CpInfo := pool [(5, u "<init>"), (0, u "()V"), (1, .class_ 10), (1, u "java/lang/Object")] 113

def k0c0 : Code := { maxStack := 0, maxLocals := 1, code := object_method_1_code, exceptionTable := #[], attributes := #[] }
def k0m0 : Method := { name := "<init>", desc := "()V", sig := { parameters := [], returnType := none }, accessFlags := 1, code := some k0c0 }
/-- java/lang/Object -/
def k0 : Class := { plain "java/lang/Object" none with
  accessFlags := 33
  interfaces := #[]
  cf := some (fileOf pool0 8 #[] #[{ accessFlags := 1, nameIndex := 5, descriptorIndex := 6, attributes := #[] }] 33 0 #[] #[])
  fields := #[]
  methods := #[k0m0]
  instanceTypes := #[]
  staticTypes := #[]
  resolved := Array.replicate 124 none
  statics := none }

def pool1 : Array CpInfo := pool [(2, .class_ 4), (1, u "java/lang/Object"), (0, u "<init>"), (0, u "()V"), (0, .fieldref 8 9), (0, .class_ 10), (0, .nameAndType 11 12), (0, u "com/example/trastero/trastero/storage/PermissionMode"), (0, u "NONE"), (0, u "Lcom/example/trastero/trastero/storage/PermissionMode;"), (0, .fieldref 8 14), (0, .nameAndType 15 12), (0, u "X"), (0, .fieldref 8 17), (0, .nameAndType 18 12), (0, u "W"), (0, .fieldref 8 20), (0, .nameAndType 21 12), (0, u "WX"), (0, .fieldref 8 23), (0, .nameAndType 24 12), (0, u "R"), (0, .fieldref 8 26), (0, .nameAndType 27 12), (0, u "RX"), (0, .fieldref 8 29), (0, .nameAndType 30 12), (0, u "RW"), (0, .fieldref 8 32), (0, .nameAndType 33 12), (0, u "RWX"), (0, .class_ 35), (0, u "com/example/trastero/trastero/storage/Mode"), (0, .methodref 37 38), (0, .class_ 39), (0, .nameAndType 40 41), (0, u "com/example/trastero/trastero/storage/ModeBitsPinLaw"), (0, u "pick"), (0, u "(I)Lcom/example/trastero/trastero/storage/PermissionMode;"), (0, .methodref 34 43), (0, .nameAndType 5 44), (0, u "(Lcom/example/trastero/trastero/storage/PermissionMode;Lcom/example/trastero/trastero/storage/PermissionMode;Lcom/example/trastero/trastero/storage/PermissionMode;)V"), (0, .methodref 34 46), (0, .nameAndType 47 48), (0, u "bits"), (0, u "()I"), (3, u "law"), (0, u "(III)Z")] 2

def k1m0 : Method := { name := "<init>", desc := "()V", sig := { parameters := [], returnType := none }, accessFlags := 1, code := none }
def k1c1 : Code := { maxStack := 2, maxLocals := 1, code := method_2_code, exceptionTable := #[], attributes := #[] }
def k1m1 : Method := { name := "pick", desc := "(I)Lcom/example/trastero/trastero/storage/PermissionMode;", sig := { parameters := [.int], returnType := some (.object "com/example/trastero/trastero/storage/PermissionMode") }, accessFlags := 10, code := some k1c1 }
def k1c2 : Code := { maxStack := 5, maxLocals := 8, code := code, exceptionTable := #[], attributes := #[] }
def k1m2 : Method := { name := "law", desc := "(III)Z", sig := { parameters := [.int, .int, .int], returnType := some .boolean }, accessFlags := 9, code := some k1c2 }
/-- com/example/trastero/trastero/storage/ModeBitsPinLaw -/
def k1 : Class := { plain "com/example/trastero/trastero/storage/ModeBitsPinLaw" (some 0) with
  accessFlags := 49
  interfaces := #[]
  cf := some (fileOf pool1 37 #[] #[{ accessFlags := 1, nameIndex := 5, descriptorIndex := 6, attributes := #[] }, { accessFlags := 10, nameIndex := 40, descriptorIndex := 41, attributes := #[] }, { accessFlags := 9, nameIndex := 52, descriptorIndex := 53, attributes := #[] }] 49 2 #[] #[])
  fields := #[]
  methods := #[k1m0, k1m1, k1m2]
  instanceTypes := #[]
  staticTypes := #[]
  resolved := Array.replicate 56 none
  statics := none }

def pool2 : Array CpInfo := pool [(1, .methodref 2 3), (0, .class_ 4), (0, .nameAndType 5 6), (0, u "java/lang/Object"), (0, u "<init>"), (0, u "()V"), (0, .class_ 8), (0, u "java/lang/Record")] 13

def k2c0 : Code := { maxStack := 1, maxLocals := 1, code := jdk_30_method_1_code, exceptionTable := #[], attributes := #[] }
def k2m0 : Method := { name := "<init>", desc := "()V", sig := { parameters := [], returnType := none }, accessFlags := 4, code := some k2c0 }
/-- java/lang/Record -/
def k2 : Class := { plain "java/lang/Record" (some 0) with
  accessFlags := 1057
  interfaces := #[]
  cf := some (fileOf pool2 7 #[] #[{ accessFlags := 4, nameIndex := 5, descriptorIndex := 6, attributes := #[] }] 1057 2 #[] #[])
  fields := #[]
  methods := #[k2m0]
  instanceTypes := #[]
  staticTypes := #[]
  resolved := Array.replicate 22 none
  statics := none }

def pool3 : Array CpInfo := pool [(1, .methodref 2 3), (0, .class_ 4), (0, .nameAndType 5 6), (0, u "java/lang/Record"), (0, u "<init>"), (0, u "()V"), (0, .fieldref 8 9), (0, .class_ 10), (0, .nameAndType 11 12), (0, u "com/example/trastero/trastero/storage/Mode"), (0, u "owner"), (0, u "Lcom/example/trastero/trastero/storage/PermissionMode;"), (0, .fieldref 8 14), (0, .nameAndType 15 12), (0, u "group"), (0, .fieldref 8 17), (0, .nameAndType 18 12), (0, u "other"), (52, u "()I"), (1, .class_ 75), (1, u "com/example/trastero/trastero/storage/PermissionMode"), (3, u "(Lcom/example/trastero/trastero/storage/PermissionMode;Lcom/example/trastero/trastero/storage/PermissionMode;Lcom/example/trastero/trastero/storage/PermissionMode;)V"), (0, .methodref 73 81), (0, .nameAndType 82 71), (0, u "bits")] 54

def k3c0 : Code := { maxStack := 2, maxLocals := 4, code := prog_27_method_1_code, exceptionTable := #[], attributes := #[] }
def k3m0 : Method := { name := "<init>", desc := "(Lcom/example/trastero/trastero/storage/PermissionMode;Lcom/example/trastero/trastero/storage/PermissionMode;Lcom/example/trastero/trastero/storage/PermissionMode;)V", sig := { parameters := [(.object "com/example/trastero/trastero/storage/PermissionMode"), (.object "com/example/trastero/trastero/storage/PermissionMode"), (.object "com/example/trastero/trastero/storage/PermissionMode")], returnType := none }, accessFlags := 1, code := some k3c0 }
def k3c1 : Code := { maxStack := 3, maxLocals := 1, code := prog_27_method_5_code, exceptionTable := #[], attributes := #[] }
def k3m1 : Method := { name := "bits", desc := "()I", sig := { parameters := [], returnType := some .int }, accessFlags := 1, code := some k3c1 }
/-- com/example/trastero/trastero/storage/Mode -/
def k3 : Class := { plain "com/example/trastero/trastero/storage/Mode" (some 2) with
  accessFlags := 49
  interfaces := #[]
  cf := some (fileOf pool3 8 #[] #[{ accessFlags := 1, nameIndex := 5, descriptorIndex := 79, attributes := #[] }, { accessFlags := 1, nameIndex := 82, descriptorIndex := 71, attributes := #[] }] 49 2 #[] #[{ accessFlags := 18, nameIndex := 11, descriptorIndex := 12, attributes := #[] }, { accessFlags := 18, nameIndex := 15, descriptorIndex := 12, attributes := #[] }, { accessFlags := 18, nameIndex := 18, descriptorIndex := 12, attributes := #[] }])
  fields := #[{ name := "owner", type := (.object "com/example/trastero/trastero/storage/PermissionMode"), accessFlags := 18, slot := 0, constantValue := 0 }, { name := "group", type := (.object "com/example/trastero/trastero/storage/PermissionMode"), accessFlags := 18, slot := 1, constantValue := 0 }, { name := "other", type := (.object "com/example/trastero/trastero/storage/PermissionMode"), accessFlags := 18, slot := 2, constantValue := 0 }]
  methods := #[k3m0, k3m1]
  instanceTypes := #[(.object "com/example/trastero/trastero/storage/PermissionMode"), (.object "com/example/trastero/trastero/storage/PermissionMode"), (.object "com/example/trastero/trastero/storage/PermissionMode")]
  staticTypes := #[]
  resolved := Array.replicate 137 none
  statics := none }

def pool4 : Array CpInfo := pool [(1, .class_ 2), (0, u "java/lang/constant/Constable"), (0, .class_ 4), (0, u "java/lang/Object")] 6

/-- java/lang/constant/Constable -/
def k4 : Class := { plain "java/lang/constant/Constable" (some 0) with
  accessFlags := 1537
  interfaces := #[]
  cf := some (fileOf pool4 1 #[] #[] 1537 3 #[] #[])
  fields := #[]
  methods := #[]
  instanceTypes := #[]
  staticTypes := #[]
  resolved := Array.replicate 11 none
  statics := none }

def pool5 : Array CpInfo := pool [(1, .class_ 2), (0, u "java/lang/Comparable"), (0, .class_ 4), (0, u "java/lang/Object")] 7

/-- java/lang/Comparable -/
def k5 : Class := { plain "java/lang/Comparable" (some 0) with
  accessFlags := 1537
  interfaces := #[]
  cf := some (fileOf pool5 1 #[] #[] 1537 3 #[] #[])
  fields := #[]
  methods := #[]
  instanceTypes := #[]
  staticTypes := #[]
  resolved := Array.replicate 12 none
  statics := none }

def pool6 : Array CpInfo := pool [(1, .class_ 2), (0, u "java/io/Serializable"), (0, .class_ 4), (0, u "java/lang/Object")] 2

/-- java/io/Serializable -/
def k6 : Class := { plain "java/io/Serializable" (some 0) with
  accessFlags := 1537
  interfaces := #[]
  cf := some (fileOf pool6 1 #[] #[] 1537 3 #[] #[])
  fields := #[]
  methods := #[]
  instanceTypes := #[]
  staticTypes := #[]
  resolved := Array.replicate 7 none
  statics := none }

def pool7 : Array CpInfo := pool [(2, .class_ 4), (1, u "java/lang/Enum"), (0, u "name"), (0, u "Ljava/lang/String;"), (0, .fieldref 2 8), (0, .nameAndType 9 10), (0, u "ordinal"), (0, u "I"), (1, .class_ 14), (1, u "java/lang/Object"), (4, u "hash"), (86, .class_ 108), (1, u "java/lang/Enum$EnumDesc"), (2, .class_ 112), (0, u "java/lang/constant/Constable"), (0, .class_ 114), (0, u "java/lang/Comparable"), (0, .class_ 116), (0, u "java/io/Serializable"), (9, u "()I")] 77

def k7c0 : Code := { maxStack := 1, maxLocals := 1, code := jdk_37_method_2_code, exceptionTable := #[], attributes := #[] }
def k7m0 : Method := { name := "ordinal", desc := "()I", sig := { parameters := [], returnType := some .int }, accessFlags := 17, code := some k7c0 }
/-- java/lang/Enum -/
def k7 : Class := { plain "java/lang/Enum" (some 0) with
  accessFlags := 1057
  interfaces := #[4, 5, 6]
  cf := some (fileOf pool7 2 #[.nestMembers #[106]] #[{ accessFlags := 17, nameIndex := 9, descriptorIndex := 126, attributes := #[] }] 1057 12 #[111, 113, 115] #[{ accessFlags := 18, nameIndex := 5, descriptorIndex := 6, attributes := #[] }, { accessFlags := 18, nameIndex := 9, descriptorIndex := 10, attributes := #[] }, { accessFlags := 2, nameIndex := 19, descriptorIndex := 10, attributes := #[] }])
  fields := #[{ name := "name", type := (.object "java/lang/String"), accessFlags := 18, slot := 0, constantValue := 0 }, { name := "ordinal", type := .int, accessFlags := 18, slot := 1, constantValue := 0 }, { name := "hash", type := .int, accessFlags := 2, slot := 2, constantValue := 0 }]
  methods := #[k7m0]
  instanceTypes := #[(.object "java/lang/String"), .int, .int]
  staticTypes := #[]
  resolved := Array.replicate 204 none
  statics := none }

def pool8 : Array CpInfo := pool [(1, .class_ 2), (0, u "com/example/trastero/trastero/storage/PermissionMode"), (2, u "NONE"), (0, u "Lcom/example/trastero/trastero/storage/PermissionMode;"), (2, u "X"), (2, u "W"), (2, u "WX"), (2, u "R"), (2, u "RX"), (2, u "RW"), (2, u "RWX"), (2, u "$VALUES"), (0, u "[Lcom/example/trastero/trastero/storage/PermissionMode;"), (6, .class_ 40), (1, u "java/lang/Enum"), (8, u "BY_BITS"), (9, .methodref 1 60), (0, .nameAndType 61 62), (0, u "ordinal"), (0, u "()I"), (2, u "bits")] 50

def k8c0 : Code := { maxStack := 1, maxLocals := 1, code := prog_29_method_5_code, exceptionTable := #[], attributes := #[] }
def k8m0 : Method := { name := "bits", desc := "()I", sig := { parameters := [], returnType := some .int }, accessFlags := 1, code := some k8c0 }
/-- com/example/trastero/trastero/storage/PermissionMode -/
def k8 : Class := { plain "com/example/trastero/trastero/storage/PermissionMode" (some 7) with
  accessFlags := 16433
  interfaces := #[]
  cf := some (fileOf pool8 1 #[] #[{ accessFlags := 1, nameIndex := 65, descriptorIndex := 62, attributes := #[] }] 16433 38 #[] #[{ accessFlags := 16409, nameIndex := 5, descriptorIndex := 6, attributes := #[] }, { accessFlags := 16409, nameIndex := 9, descriptorIndex := 6, attributes := #[] }, { accessFlags := 16409, nameIndex := 12, descriptorIndex := 6, attributes := #[] }, { accessFlags := 16409, nameIndex := 15, descriptorIndex := 6, attributes := #[] }, { accessFlags := 16409, nameIndex := 18, descriptorIndex := 6, attributes := #[] }, { accessFlags := 16409, nameIndex := 21, descriptorIndex := 6, attributes := #[] }, { accessFlags := 16409, nameIndex := 24, descriptorIndex := 6, attributes := #[] }, { accessFlags := 16409, nameIndex := 27, descriptorIndex := 6, attributes := #[] }, { accessFlags := 26, nameIndex := 49, descriptorIndex := 31, attributes := #[] }, { accessFlags := 4122, nameIndex := 30, descriptorIndex := 31, attributes := #[] }])
  fields := #[{ name := "NONE", type := (.object "com/example/trastero/trastero/storage/PermissionMode"), accessFlags := 16409, slot := 0, constantValue := 0 }, { name := "X", type := (.object "com/example/trastero/trastero/storage/PermissionMode"), accessFlags := 16409, slot := 1, constantValue := 0 }, { name := "W", type := (.object "com/example/trastero/trastero/storage/PermissionMode"), accessFlags := 16409, slot := 2, constantValue := 0 }, { name := "WX", type := (.object "com/example/trastero/trastero/storage/PermissionMode"), accessFlags := 16409, slot := 3, constantValue := 0 }, { name := "R", type := (.object "com/example/trastero/trastero/storage/PermissionMode"), accessFlags := 16409, slot := 4, constantValue := 0 }, { name := "RX", type := (.object "com/example/trastero/trastero/storage/PermissionMode"), accessFlags := 16409, slot := 5, constantValue := 0 }, { name := "RW", type := (.object "com/example/trastero/trastero/storage/PermissionMode"), accessFlags := 16409, slot := 6, constantValue := 0 }, { name := "RWX", type := (.object "com/example/trastero/trastero/storage/PermissionMode"), accessFlags := 16409, slot := 7, constantValue := 0 }, { name := "BY_BITS", type := (.array (.object "com/example/trastero/trastero/storage/PermissionMode")), accessFlags := 26, slot := 8, constantValue := 0 }, { name := "$VALUES", type := (.array (.object "com/example/trastero/trastero/storage/PermissionMode")), accessFlags := 4122, slot := 9, constantValue := 0 }]
  methods := #[k8m0]
  instanceTypes := #[(.object "java/lang/String"), .int, .int]
  staticTypes := #[(.object "com/example/trastero/trastero/storage/PermissionMode"), (.object "com/example/trastero/trastero/storage/PermissionMode"), (.object "com/example/trastero/trastero/storage/PermissionMode"), (.object "com/example/trastero/trastero/storage/PermissionMode"), (.object "com/example/trastero/trastero/storage/PermissionMode"), (.object "com/example/trastero/trastero/storage/PermissionMode"), (.object "com/example/trastero/trastero/storage/PermissionMode"), (.object "com/example/trastero/trastero/storage/PermissionMode"), (.array (.object "com/example/trastero/trastero/storage/PermissionMode")), (.array (.object "com/example/trastero/trastero/storage/PermissionMode"))]
  resolved := Array.replicate 116 none
  statics := some 0 }

def pool9 : Array CpInfo := pool [(1, u "java/lang/Cloneable"), (0, .class_ 1), (0, u "java/lang/Object"), (0, .class_ 3)] 3

/-- java/lang/Cloneable -/
def k9 : Class := { plain "java/lang/Cloneable" (some 0) with
  accessFlags := 1537
  interfaces := #[]
  cf := some (fileOf pool9 2 #[] #[] 1537 4 #[] #[])
  fields := #[]
  methods := #[]
  instanceTypes := #[]
  staticTypes := #[]
  resolved := Array.replicate 8 none
  statics := none }

/-- the primitive byte -/
def k10 : Class := { plain "byte" none with kind := .primitive 'B', accessFlags := 0x411 }
/-- [B -/
def k11 : Class := { plain "[B" (some 0) with kind := .array 10 .byte, interfaces := #[9, 6], accessFlags := 1041 }

/-- the primitive int -/
def k12 : Class := { plain "int" none with kind := .primitive 'I', accessFlags := 0x411 }
/-- [I -/
def k13 : Class := { plain "[I" (some 0) with kind := .array 12 .int, interfaces := #[9, 6], accessFlags := 1041 }

def heap : Heap := #[{ cls := 8, slots := #[.ref 1, .ref 2, .ref 3, .ref 4, .ref 5, .ref 6, .ref 7, .ref 8, .null, .null], vm := .statics 8 },
  { cls := 8, slots := #[.null, .int 0, .int 0], vm := .none },
  { cls := 8, slots := #[.null, .int 1, .int 0], vm := .none },
  { cls := 8, slots := #[.null, .int 2, .int 0], vm := .none },
  { cls := 8, slots := #[.null, .int 3, .int 0], vm := .none },
  { cls := 8, slots := #[.null, .int 4, .int 0], vm := .none },
  { cls := 8, slots := #[.null, .int 5, .int 0], vm := .none },
  { cls := 8, slots := #[.null, .int 6, .int 0], vm := .none },
  { cls := 8, slots := #[.null, .int 7, .int 0], vm := .none }]
def classes : Array Class := #[k0, k1, k2, k3, k4, k5, k6, k7, k8, k9, k10, k11, k12, k13]
def interned : List (Array UInt16 × Addr) := []
def slotsUsed : Nat := 34
def theMethod : MethodId := ⟨1, 2⟩
def args0 : Array Value := #[.int 5, .int 5, .int 5]
def aboutOver (below : List Frame) : State where
  vm := { classes := classes, interned := interned.toArray }
  heap := heap
  slotsUsed := slotsUsed
  threads := #[{ frames := .invoking theMethod args0 :: below }]
def below0 : List Frame := [.native { method := ⟨0, 0⟩, args := #[] }]
def about1 : State := aboutOver below0
def p0 : Program := .bare "" "" ""
def e0 : Env := launch0.env 0 0 0
theorem w_frames : about1.frames = Frame.invoking theMethod args0 :: below0 := rfl
set_option maxRecDepth 65536 in
theorem w_args : argsFit about1.vm theMethod args0 = true := by decide +kernel
set_option maxRecDepth 65536 in
theorem w_heap : heapFits about1 = true := by decide +kernel
set_option maxRecDepth 65536 in
theorem w_runnable : about1.curStatus? = some .runnable := by decide +kernel
set_option maxRecDepth 65536 in
theorem w_alone : about1.alone = true := by decide +kernel
set_option maxRecDepth 65536 in
theorem w_named : about1.methodNamed? x = some theMethod := by decide +kernel
set_option maxRecDepth 65536 in
theorem w_hears : about1.hears theMethod below0 = true := by decide +kernel
set_option maxRecDepth 65536 in
theorem w_ripe : about1.ripe theMethod args0 below0 = true := by decide +kernel
theorem w_running : about1.status = .running := rfl
set_option maxRecDepth 65536 in
theorem w_room : about1.hasRoom e0.platform room_1 = true :=
  launch0.hasRoom_least _ room_1 (by decide +kernel) (by decide +kernel) (by decide +kernel) (by decide +kernel) (by decide +kernel) (by decide +kernel)
theorem allAtoms_all (ts : List Jvm.Cond) (a : Array Jvm.Value) (st : Jvm.State) : (allAtoms ts).before a st = ts.all (fun c => c.before a st) := by
  induction ts with
  | nil => rfl
  | cons c t ih =>
    show (Jvm.Cond.and c (allAtoms t)).before a st = _
    rw [Jvm.Cond.before_and, ih, List.all_cons]
def words1 : List Jvm.Cond := Jvm.Cond.code x code maxLocals ret :: tables_1
/-- a 'code' word, met by the world's own term for the bytes: nothing is compared byte by byte -/
theorem code_word {y : MethodName} {bytes : ByteArray} {mx : Nat} {rt : Option FieldType} {a : Array Value} {s : State} {m : MethodId} {meth : Method} {c : Code} (h1 : s.methodNamed? y = some m) (h2 : s.vm.method? m = some meth) (h3 : meth.code = some c) (h4 : c.code = bytes)
    (h5 : (c.maxLocals == mx && c.exceptionTable.isEmpty && decide (c.maxStack ≤ mostOperands) && decide (meth.sig.returnType = rt) && !meth.locks && decide (parseMethodDescriptor y.desc = some meth.sig)) = true) : (Jvm.Cond.code y bytes mx rt).before a s = true := by
  simp only [Bool.and_eq_true, beq_iff_eq, Bool.not_eq_true', decide_eq_true_eq] at h5
  obtain ⟨⟨⟨⟨⟨g1, g2⟩, g3⟩, g4⟩, g5⟩, g6⟩ := h5
  simp [Cond.before, Cond.holds, Cond.value, h1, h2, h3, h4, g1, g2, g3, g4, g5, g6]
def isCode : Jvm.Cond → Bool
  | .code _ _ _ _ => true
  | _ => false
theorem all_split {L : List Jvm.Cond} {P : Jvm.Cond → Bool} (h1 : L.all (fun c => isCode c || P c) = true) (h2 : ∀ c ∈ L.filter isCode, P c = true) : L.all P = true := by
  refine List.all_eq_true.mpr fun c hc => ?_
  have h := List.all_eq_true.mp h1 c hc
  rcases Bool.eq_false_or_eq_true (isCode c) with hi | hi
  · exact h2 c (List.mem_filter.mpr ⟨hc, hi⟩)
  · simpa [hi] using h
set_option maxRecDepth 65536 in
theorem w_c0 : (Jvm.Cond.code x code maxLocals ret).before args0 about1 = true := code_word (m := ⟨1, 2⟩) (meth := k1m2) (c := k1c2) (by decide +kernel) rfl rfl rfl (by decide +kernel)
set_option maxRecDepth 65536 in
theorem w_c1 : (Jvm.Cond.code ({ cls := "com/example/trastero/trastero/storage/ModeBitsPinLaw", name := "pick", desc := "(I)Lcom/example/trastero/trastero/storage/PermissionMode;" } : Jvm.MethodName) method_2_code (1 : Nat) (Option.some (Jvm.ClassFile.FieldType.object "com/example/trastero/trastero/storage/PermissionMode"))).before args0 about1 = true := code_word (m := ⟨1, 1⟩) (meth := k1m1) (c := k1c1) (by decide +kernel) rfl rfl rfl (by decide +kernel)
set_option maxRecDepth 65536 in
theorem w_c2 : (Jvm.Cond.code ({ cls := "com/example/trastero/trastero/storage/Mode", name := "<init>", desc := "(Lcom/example/trastero/trastero/storage/PermissionMode;Lcom/example/trastero/trastero/storage/PermissionMode;Lcom/example/trastero/trastero/storage/PermissionMode;)V" } : Jvm.MethodName) prog_27_method_1_code (4 : Nat) (Option.none : Option Jvm.ClassFile.FieldType)).before args0 about1 = true := code_word (m := ⟨3, 0⟩) (meth := k3m0) (c := k3c0) (by decide +kernel) rfl rfl rfl (by decide +kernel)
set_option maxRecDepth 65536 in
theorem w_c3 : (Jvm.Cond.code ({ cls := "java/lang/Record", name := "<init>", desc := "()V" } : Jvm.MethodName) jdk_30_method_1_code (1 : Nat) (Option.none : Option Jvm.ClassFile.FieldType)).before args0 about1 = true := code_word (m := ⟨2, 0⟩) (meth := k2m0) (c := k2c0) (by decide +kernel) rfl rfl rfl (by decide +kernel)
set_option maxRecDepth 65536 in
theorem w_c4 : (Jvm.Cond.code ({ cls := "java/lang/Object", name := "<init>", desc := "()V" } : Jvm.MethodName) object_method_1_code (1 : Nat) (Option.none : Option Jvm.ClassFile.FieldType)).before args0 about1 = true := code_word (m := ⟨0, 0⟩) (meth := k0m0) (c := k0c0) (by decide +kernel) rfl rfl rfl (by decide +kernel)
set_option maxRecDepth 65536 in
theorem w_c5 : (Jvm.Cond.code ({ cls := "com/example/trastero/trastero/storage/Mode", name := "bits", desc := "()I" } : Jvm.MethodName) prog_27_method_5_code (1 : Nat) (Option.some Jvm.ClassFile.FieldType.int)).before args0 about1 = true := code_word (m := ⟨3, 1⟩) (meth := k3m1) (c := k3c1) (by decide +kernel) rfl rfl rfl (by decide +kernel)
set_option maxRecDepth 65536 in
theorem w_c6 : (Jvm.Cond.code ({ cls := "com/example/trastero/trastero/storage/PermissionMode", name := "bits", desc := "()I" } : Jvm.MethodName) prog_29_method_5_code (1 : Nat) (Option.some Jvm.ClassFile.FieldType.int)).before args0 about1 = true := code_word (m := ⟨8, 0⟩) (meth := k8m0) (c := k8c0) (by decide +kernel) rfl rfl rfl (by decide +kernel)
set_option maxRecDepth 65536 in
theorem w_c7 : (Jvm.Cond.code ({ cls := "java/lang/Enum", name := "ordinal", desc := "()I" } : Jvm.MethodName) jdk_37_method_2_code (1 : Nat) (Option.some Jvm.ClassFile.FieldType.int)).before args0 about1 = true := code_word (m := ⟨7, 0⟩) (meth := k7m0) (c := k7c0) (by decide +kernel) rfl rfl rfl (by decide +kernel)
def codes1 : List Jvm.Cond := [Jvm.Cond.code x code maxLocals ret, Jvm.Cond.code ({ cls := "com/example/trastero/trastero/storage/ModeBitsPinLaw", name := "pick", desc := "(I)Lcom/example/trastero/trastero/storage/PermissionMode;" } : Jvm.MethodName) method_2_code (1 : Nat) (Option.some (Jvm.ClassFile.FieldType.object "com/example/trastero/trastero/storage/PermissionMode")), Jvm.Cond.code ({ cls := "com/example/trastero/trastero/storage/Mode", name := "<init>", desc := "(Lcom/example/trastero/trastero/storage/PermissionMode;Lcom/example/trastero/trastero/storage/PermissionMode;Lcom/example/trastero/trastero/storage/PermissionMode;)V" } : Jvm.MethodName) prog_27_method_1_code (4 : Nat) (Option.none : Option Jvm.ClassFile.FieldType), Jvm.Cond.code ({ cls := "java/lang/Record", name := "<init>", desc := "()V" } : Jvm.MethodName) jdk_30_method_1_code (1 : Nat) (Option.none : Option Jvm.ClassFile.FieldType), Jvm.Cond.code ({ cls := "java/lang/Object", name := "<init>", desc := "()V" } : Jvm.MethodName) object_method_1_code (1 : Nat) (Option.none : Option Jvm.ClassFile.FieldType), Jvm.Cond.code ({ cls := "com/example/trastero/trastero/storage/Mode", name := "bits", desc := "()I" } : Jvm.MethodName) prog_27_method_5_code (1 : Nat) (Option.some Jvm.ClassFile.FieldType.int), Jvm.Cond.code ({ cls := "com/example/trastero/trastero/storage/PermissionMode", name := "bits", desc := "()I" } : Jvm.MethodName) prog_29_method_5_code (1 : Nat) (Option.some Jvm.ClassFile.FieldType.int), Jvm.Cond.code ({ cls := "java/lang/Enum", name := "ordinal", desc := "()I" } : Jvm.MethodName) jdk_37_method_2_code (1 : Nat) (Option.some Jvm.ClassFile.FieldType.int)]
set_option maxRecDepth 65536 in
theorem codes_eq : words1.filter isCode = codes1 := rfl
theorem w_codes : ∀ c ∈ words1.filter isCode, c.before args0 about1 = true := by
  rw [codes_eq]
  intro c hc
  simp only [codes1, List.mem_cons, List.not_mem_nil, or_false] at hc
  rcases hc with rfl | rfl | rfl | rfl | rfl | rfl | rfl | rfl
  · exact w_c0
  · exact w_c1
  · exact w_c2
  · exact w_c3
  · exact w_c4
  · exact w_c5
  · exact w_c6
  · exact w_c7
set_option maxRecDepth 65536 in
theorem w_t1 : (words1.take 24).all (fun c => isCode c || c.before args0 about1) = true := by decide +kernel
set_option maxRecDepth 65536 in
theorem w_t2 : ((words1.drop 24).take 24).all (fun c => isCode c || c.before args0 about1) = true := by decide +kernel
set_option maxRecDepth 65536 in
theorem w_t3 : ((words1.drop 24).drop 24).all (fun c => isCode c || c.before args0 about1) = true := by decide +kernel
theorem w_tables : (allAtoms (Jvm.Cond.code x code maxLocals ret :: tables_1)).before args0 about1 = true := by
  rw [allAtoms_all]
  show words1.all (fun c => c.before args0 about1) = true
  refine all_split ?_ w_codes
  rw [← List.take_append_drop 24 words1, List.all_append, w_t1, ← List.take_append_drop 24 (words1.drop 24), List.all_append, w_t2, w_t3]
  rfl
set_option maxRecDepth 65536 in
theorem w_case : (Jvm.Cond.and given_1 narrow_1).before args0 about1 = true := by decide +kernel
theorem w_applies : (headSpec (Jvm.Cond.code x code maxLocals ret :: tables_1) room_1).applies x e0.platform about1 = true :=
  (Spec.applies_iff w_frames).mpr ⟨w_running, w_runnable, w_alone, w_named, w_hears, w_ripe, w_room, w_tables⟩
theorem atStart : AtStart classFile x code maxLocals ret World_1 tables_1 room_1 Calls_1 rest_1 Pre_1 launch0 p0 e0 about1 theMethod args0 below0 :=
  ⟨lists_1, trivial, launch0.admits_env _ _ _, launch0.least_env, fairChoices_fair.cas, fairChoices_fair.clock, w_frames, w_args, w_heap, w_applies, trivial, trivial, w_case⟩
end start1
theorem witness_1 : WitnessClaimed_1 := ⟨start1.p0, start1.e0, start1.about1, start1.theMethod, start1.args0, start1.below0, start1.atStart⟩
end Jvm.Pilot.@@N@@
