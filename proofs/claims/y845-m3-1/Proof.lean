import JvmDerived
import JvmDerived.Pilot.@@N@@Statement
import JvmDerived.Pilot.@@N@@Code
set_option linter.unusedVariables false
set_option linter.unusedSimpArgs false
set_option maxRecDepth 65536
set_option maxHeartbeats 40000000
namespace Jvm.OwnK
open Jvm Jvm.ClassFile Sem Op Lib Jvm.Free Jvm.Stand Jvm.RoadKit
/- lists by place -/
def nth {α : Type} : List α → Nat → Option α
  | [], _ => none
  | x :: _, 0 => some x
  | _ :: r, n + 1 => nth r n
def upd {α : Type} : List α → Nat → α → List α
  | [], _, _ => []
  | _ :: r, 0, y => y :: r
  | x :: r, n + 1, y => x :: upd r n y
theorem nth_mem {α : Type} : ∀ {L : List α} {i : Nat} {x : α}, nth L i = some x → x ∈ L
  | [], _, _, h => by cases h
  | y :: r, 0, x, h => by cases h; exact List.mem_cons_self
  | y :: r, n + 1, x, h => List.mem_cons_of_mem _ (nth_mem (L := r) h)
theorem nth_lt {α : Type} : ∀ {L : List α} {i : Nat} {x : α}, nth L i = some x → i < L.length
  | [], _, _, h => by cases h
  | y :: r, 0, x, h => Nat.succ_pos _
  | y :: r, n + 1, x, h => Nat.succ_lt_succ (nth_lt (L := r) h)
theorem nth_get {α : Type} : ∀ (L : List α) (i : Nat), nth L i = L[i]?
  | [], _ => rfl
  | y :: r, 0 => rfl
  | y :: r, n + 1 => by show nth r n = _; rw [nth_get r n]; rfl
theorem upd_len {α : Type} : ∀ (L : List α) (i : Nat) (y : α), (upd L i y).length = L.length
  | [], _, _ => rfl
  | _ :: _, 0, _ => rfl
  | _ :: r, n + 1, y => congrArg Nat.succ (upd_len r n y)
theorem upd_set {α : Type} : ∀ (L : List α) (i : Nat) (y : α), upd L i y = L.set i y
  | [], _, _ => rfl
  | _ :: _, 0, _ => rfl
  | x :: r, n + 1, y => congrArg (x :: ·) (upd_set r n y)
theorem upd_mem {α : Type} : ∀ {L : List α} {i : Nat} {y x : α}, x ∈ upd L i y → x = y ∨ x ∈ L
  | [], _, _, _, h => nomatch h
  | _ :: r, 0, y, x, h => (List.mem_cons.mp h).elim Or.inl fun q => Or.inr (List.mem_cons_of_mem _ q)
  | z :: r, n + 1, y, x, h => (List.mem_cons.mp h).elim (fun q => Or.inr (q ▸ List.mem_cons_self)) fun q => (upd_mem q).imp id (List.mem_cons_of_mem _)
theorem leD {a b : Nat} (h : Nat.ble a b = true) : a ≤ b := Nat.le_of_ble_eq_true h
theorem ofn_toInt {k : Nat} (h : k < 2 ^ 31) : (Int32.ofNat k).toInt = k := Int32.toInt_ofNat_small h
theorem ofn_nn {k : Nat} (h : k < 2 ^ 31) : ¬ Int32.ofNat k < 0 := by rw [Int32.lt_iff_toInt_lt, ofn_toInt h]; show ¬ (k : Int) < 0; omega
theorem ofn_nat {k : Nat} (h : k < 2 ^ 31) : (Int32.ofNat k).toNatClampNeg = k := by simp only [Int32.toNatClampNeg, ofn_toInt h]; rfl
theorem ofn_lt {i n : Nat} (hi : i < 2 ^ 31) (hn : n < 2 ^ 31) : Int32.ofNat i < Int32.ofNat n ↔ i < n := by rw [Int32.lt_iff_toInt_lt, ofn_toInt hi, ofn_toInt hn]; omega
theorem ofn_inj {i n : Nat} (hi : i < 2 ^ 31) (hn : n < 2 ^ 31) : Int32.ofNat i = Int32.ofNat n ↔ i = n := by rw [← Int32.toInt_inj, ofn_toInt hi, ofn_toInt hn]; omega
theorem ofn_succ (k : Nat) : Int32.ofNat k + 1 = Int32.ofNat (k + 1) := by rw [Int32.ofNat_add]; rfl
theorem fa0 {α : Type} {P : α → Prop} : ∀ c ∈ ([] : List α), P c := fun _ h => nomatch h
theorem faS {α : Type} {P : α → Prop} {x : α} {L : List α} (h : P x) (r : ∀ c ∈ L, P c) : ∀ c ∈ x :: L, P c := fun c hc => (List.mem_cons.mp hc).elim (fun e => e ▸ h) (r c)
theorem and3 (x : Int32) : x &&& 3 = 0 ∨ x &&& 3 = 1 ∨ x &&& 3 = 2 ∨ x &&& 3 = 3 := by
  obtain ⟨h1, h2⟩ := c_and x 3 (by decide)
  have e : (3 : Int32).toInt = 3 := rfl
  have q : (x &&& 3).toInt = (0 : Int32).toInt ∨ (x &&& 3).toInt = (1 : Int32).toInt ∨ (x &&& 3).toInt = (2 : Int32).toInt ∨ (x &&& 3).toInt = (3 : Int32).toInt := by
    show _ = 0 ∨ _ = 1 ∨ _ = 2 ∨ _ = 3
    omega
  exact q.imp Int32.toInt_inj.mp (·.imp Int32.toInt_inj.mp (·.imp Int32.toInt_inj.mp Int32.toInt_inj.mp))
def Lat (cs : List Int32) : Prop := (∀ c ∈ cs, ¬ c < 0 ∧ ¬ 255 < c) ∧ cs.length ≤ 4000
def chars (cs : List Int32) : List Value := cs.map Value.int
def lowB (cs : List Int32) : List Int32 := cs.map fun c => c.toInt8.toInt32
def encB (cs : List Int32) : List Value := chars (lowB cs)
theorem Lat.len {cs : List Int32} (h : Lat cs) : cs.length < 2 ^ 31 := Nat.lt_of_le_of_lt h.2 (by decide)
theorem nth_map {α β : Type} (f : α → β) : ∀ (L : List α) (i : Nat), nth (L.map f) i = (nth L i).map f
  | [], _ => rfl
  | _ :: _, 0 => rfl
  | _ :: r, n + 1 => nth_map f r n
theorem nth_some {α : Type} : ∀ {L : List α} {i : Nat}, i < L.length → ∃ x, nth L i = some x
  | [], _, h => absurd h (Nat.not_lt_zero _)
  | x :: _, 0, _ => ⟨x, rfl⟩
  | _ :: r, n + 1, h => nth_some (L := r) (Nat.lt_of_succ_lt_succ h)
def part (cs : List Int32) (k : Nat) : List Value := encB (cs.take k) ++ List.replicate (cs.length - k) (.int 0)
theorem Lat.upd {fs : List Int32} (h : Lat fs) {j : Nat} {x : Int32} (hx : ¬ x < 0 ∧ ¬ 255 < x) : Lat (upd fs j x) := ⟨fun c hc => (upd_mem hc).elim (fun e => e ▸ hx) (h.1 c), by rw [upd_len]; exact h.2⟩
theorem part_zero (cs : List Int32) : part cs 0 = List.replicate cs.length (.int 0) := by simp [part, encB, chars, lowB]
theorem part_all (cs : List Int32) : part cs cs.length = encB cs := by simp [part]
theorem part_len (cs : List Int32) {k : Nat} (h : k ≤ cs.length) : (part cs k).length = cs.length := by simp [part, encB, chars, lowB]; omega
theorem part_put {cs : List Int32} {k : Nat} {c : Int32} (h : nth cs k = some c) : upd (part cs k) k (.int c.toInt8.toInt32) = part cs (k + 1) := by
  have hk := nth_lt h
  have e : cs.length - k = (cs.length - (k + 1)) + 1 := by omega
  rw [nth_get] at h
  have e2 : cs.take (k + 1) = cs.take k ++ [c] := by rw [List.take_add_one, h]; rfl
  rw [upd_set, part, part, e, List.replicate_succ, e2]
  have hl : (encB (cs.take k)).length = k := by simp [encB, chars, lowB]; omega
  rw [List.set_append_right _ _ (by omega), hl, Nat.sub_self, List.set_cons_zero]
  simp [encB, chars, lowB]
theorem store7 {s0' s1' s2' s3' s4' s5' : Value} {o : Slot} {v : Int32} (h : One o) : storeLocals #[.val s0', .val s1', .val s2', .val s3', .val s4', .val s5', o] 6 (.int v) = some #[.val s0', .val s1', .val s2', .val s3', .val s4', .val s5', .val (.int v)] := by
  rcases h with rfl | ⟨w, rfl, hw⟩
  · rfl
  · cases w <;> first | rfl | (simp [Value.category] at hw)
abbrev Item := Addr × (Cell → Prop)
abbrev HL := List Item
def adr (L : HL) : List Addr := L.map (·.1)
def Live (h : Heap) (x : Item) : Prop := ∃ c, h[x.1]? = some c ∧ x.2 c
def Good (B : Addr → Prop) (h : Heap) (L : HL) : Prop := (adr L).Nodup ∧ ∀ x ∈ L, B x.1 ∧ Live h x
theorem mem_adr {L : HL} {x : Item} (h : x ∈ L) : x.1 ∈ adr L := List.mem_map.mpr ⟨x, h, rfl⟩
theorem Live.lt {h : Heap} {x : Item} (q : Live h x) : x.1 < h.size := by obtain ⟨c, q, -⟩ := q; exact (Array.getElem?_eq_some_iff.mp q).1
theorem Good.lt {B : Addr → Prop} {h : Heap} {L : HL} (G : Good B h L) {a : Addr} (q : a ∈ adr L) : a < h.size := by
  obtain ⟨x, hx, rfl⟩ := List.mem_map.mp q
  exact (G.2 x hx).2.lt
theorem Good.at {B : Addr → Prop} {h : Heap} {L : HL} (G : Good B h L) {i : Nat} {a : Addr} {P : Cell → Prop} (q : nth L i = some (a, P)) : ∃ c, h[a]? = some c ∧ P c := (G.2 _ (nth_mem q)).2
theorem Good.base {B : Addr → Prop} {h : Heap} {L : HL} (G : Good B h L) {i : Nat} {x : Item} (q : nth L i = some x) : B x.1 := (G.2 _ (nth_mem q)).1
theorem Good.nil (B : Addr → Prop) (h : Heap) : Good B h [] := ⟨List.nodup_nil, fun _ q => nomatch q⟩
theorem Good.mono {B B' : Addr → Prop} {h : Heap} {L : HL} (G : Good B h L) (q : ∀ x ∈ L, B x.1 → B' x.1) : Good B' h L := ⟨G.1, fun x hx => ⟨q x hx (G.2 x hx).1, (G.2 x hx).2⟩⟩
theorem Good.move {B : Addr → Prop} {h h' : Heap} {L : HL} (G : Good B h L) (q : ∀ (x : Addr) (c : Cell), h[x]? = some c → h'[x]? = some c) : Good B h' L := ⟨G.1, fun x hx => by
  obtain ⟨b, c, h1, h2⟩ := G.2 x hx
  exact ⟨b, c, q _ _ h1, h2⟩⟩
theorem Good.ext {B : Addr → Prop} {h h' : Heap} {L : HL} (G : Good B h L) (E : Ext h h') : Good B h' L := G.move E.2
theorem Good.new {B : Addr → Prop} {h h' : Heap} {L : HL} {P : Cell → Prop} (G : Good B h L) (E : Ext h h') (q : Live h' (h.size, P)) (b : B h.size) : Good B h' (L ++ [(h.size, P)]) := by
  refine ⟨?_, fun x hx => ?_⟩
  · rw [adr, List.map_append]
    refine List.nodup_append.mpr ⟨G.1, List.nodup_cons.mpr ⟨List.not_mem_nil, List.nodup_nil⟩, fun a ha b hb => ?_⟩
    have := G.lt ha
    rw [List.map_cons, List.map_nil] at hb
    cases List.mem_singleton.mp hb
    exact Nat.ne_of_lt this
  · rcases List.mem_append.mp hx with hx | hx
    · exact (G.ext E).2 x hx
    · cases List.mem_singleton.mp hx; exact ⟨b, q⟩
theorem adr_upd : ∀ {L : HL} {i : Nat} {a : Addr} {P P' : Cell → Prop}, nth L i = some (a, P) → adr (upd L i (a, P')) = adr L
  | [], _, _, _, _, h => by cases h
  | y :: r, 0, a, P, P', h => by cases h; rfl
  | y :: r, n + 1, a, P, P', h => congrArg (y.1 :: ·) (adr_upd (L := r) h)
theorem upd_mem' : ∀ {L : HL} {i : Nat} {a : Addr} {P : Cell → Prop} {y x : Item}, nth L i = some (a, P) → (adr L).Nodup → x ∈ upd L i y → x = y ∨ (x ∈ L ∧ x.1 ≠ a)
  | [], _, _, _, _, _, h, _, _ => by cases h
  | z :: r, 0, a, P, y, x, h, hn, hx => by
    cases h
    rcases List.mem_cons.mp hx with q | q
    · exact Or.inl q
    · refine Or.inr ⟨List.mem_cons_of_mem _ q, fun e => ?_⟩
      refine (List.nodup_cons.mp hn).1 ?_
      have q2 := mem_adr q
      rw [e] at q2; exact q2
  | z :: r, n + 1, a, P, y, x, h, hn, hx => by
    rcases List.mem_cons.mp hx with q | q
    · subst q
      refine Or.inr ⟨List.mem_cons_self, fun e => ?_⟩
      have h' : nth r n = some (a, P) := h
      refine (List.nodup_cons.mp hn).1 ?_
      have q2 := mem_adr (nth_mem h')
      show x.1 ∈ _
      rw [e]; exact q2
    · exact (upd_mem' (L := r) h (List.nodup_cons.mp hn).2 q).imp id fun q => ⟨List.mem_cons_of_mem _ q.1, q.2⟩
theorem Good.set {B : Addr → Prop} {h h' : Heap} {L : HL} (G : Good B h L) {i : Nat} {a : Addr} {P P' : Cell → Prop} (hi : nth L i = some (a, P))
    (q : ∀ (x : Addr) (c : Cell), x ≠ a → h[x]? = some c → h'[x]? = some c) (r : Live h' (a, P')) : Good B h' (upd L i (a, P')) := by
  refine ⟨by rw [adr_upd hi]; exact G.1, fun x hx => ?_⟩
  rcases upd_mem' hi G.1 hx with rfl | ⟨hx, ne⟩
  · exact ⟨(G.base hi : B a), r⟩
  · obtain ⟨b, c, h1, h2⟩ := G.2 x hx
    exact ⟨b, c, q _ _ ne h1, h2⟩
def pick (L : HL) : List Nat → HL
  | [] => []
  | i :: r => match nth L i with
    | some x => x :: pick L r
    | none => pick L r
theorem pick_mem {L : HL} : ∀ {is : List Nat} {x : Item}, x ∈ pick L is → ∃ i ∈ is, nth L i = some x
  | [], _, h => nomatch h
  | i :: r, x, h => by
    unfold pick at h
    cases q : nth L i with
    | none => rw [q] at h; obtain ⟨j, hj, e⟩ := pick_mem h; exact ⟨j, List.mem_cons_of_mem _ hj, e⟩
    | some y =>
      rw [q] at h
      rcases List.mem_cons.mp h with rfl | h
      · exact ⟨i, List.mem_cons_self, q⟩
      · obtain ⟨j, hj, e⟩ := pick_mem h; exact ⟨j, List.mem_cons_of_mem _ hj, e⟩
theorem nth_inj : ∀ {L : HL} {i j : Nat} {x y : Item}, (adr L).Nodup → nth L i = some x → nth L j = some y → x.1 = y.1 → i = j
  | [], _, _, _, _, _, h, _, _ => by cases h
  | z :: r, 0, 0, _, _, _, _, _, _ => rfl
  | z :: r, 0, j + 1, x, y, hn, h1, h2, e => by
    cases h1
    have h2' : nth r j = some y := h2
    refine absurd ?_ (List.nodup_cons.mp hn).1
    have q2 := mem_adr (nth_mem h2')
    show z.1 ∈ _
    rw [e]; exact q2
  | z :: r, i + 1, 0, x, y, hn, h1, h2, e => by
    cases h2
    have h1' : nth r i = some x := h1
    refine absurd ?_ (List.nodup_cons.mp hn).1
    have q2 := mem_adr (nth_mem h1')
    show z.1 ∈ _
    rw [← e]; exact q2
  | z :: r, i + 1, j + 1, x, y, hn, h1, h2, e => congrArg Nat.succ (nth_inj (L := r) (List.nodup_cons.mp hn).2 h1 h2 e)
theorem Good.pick {B : Addr → Prop} {h : Heap} {L : HL} (G : Good B h L) : ∀ {is : List Nat}, is.Nodup → Good B h (pick L is)
  | [], _ => Good.nil _ _
  | i :: r, hn => by
    have ih := Good.pick G (List.nodup_cons.mp hn).2
    unfold OwnK.pick
    cases q : nth L i with
    | none => exact ih
    | some y =>
      refine ⟨List.nodup_cons.mpr ⟨fun hy => ?_, ih.1⟩, fun x hx => ?_⟩
      · obtain ⟨x, hx, e⟩ := List.mem_map.mp hy
        obtain ⟨j, hj, e2⟩ := pick_mem hx
        exact (List.nodup_cons.mp hn).1 (nth_inj G.1 q e2 e.symm ▸ hj)
      · rcases List.mem_cons.mp hx with rfl | hx
        · exact G.2 _ (nth_mem q)
        · exact ih.2 x hx
def puts (L : HL) : List Nat → HL → HL
  | i :: is, y :: ys => puts (upd L i y) is ys
  | _, _ => L
def Fit2 (L : HL) : List Nat → HL → Prop
  | [], [] => True
  | i :: is, y :: ys => (∃ P, nth L i = some (y.1, P)) ∧ Fit2 L is ys
  | _, _ => False
theorem nth_upd_adr : ∀ {L : HL} {i j : Nat} {y : Item} {P : Cell → Prop} {b : Addr} {P' : Cell → Prop}, nth L i = some (y.1, P) → nth L j = some (b, P') → ∃ P'', nth (upd L i y) j = some (b, P'')
  | [], _, _, _, _, _, _, h, _ => by cases h
  | z :: r, 0, 0, y, P, b, P', h1, h2 => by
    cases h1
    have e : y.1 = b := congrArg Prod.fst (Option.some.inj h2)
    exact ⟨y.2, by rw [← e]; rfl⟩
  | z :: r, 0, j + 1, y, P, b, P', h1, h2 => ⟨P', h2⟩
  | z :: r, i + 1, 0, y, P, b, P', h1, h2 => ⟨P', h2⟩
  | z :: r, i + 1, j + 1, y, P, b, P', h1, h2 => nth_upd_adr (L := r) h1 h2
theorem Fit2.upd {L : HL} {i : Nat} {y : Item} {P : Cell → Prop} (h : nth L i = some (y.1, P)) : ∀ {is : List Nat} {ys : HL}, Fit2 L is ys → Fit2 (upd L i y) is ys
  | [], [], _ => trivial
  | j :: is, z :: ys, q => ⟨nth_upd_adr h q.1.choose_spec, Fit2.upd h q.2⟩
  | [], _ :: _, q => q.elim
  | _ :: _, [], q => q.elim
theorem puts_adr : ∀ {is : List Nat} {L : HL} {ys : HL}, Fit2 L is ys → adr (puts L is ys) = adr L
  | [], L, [], _ => rfl
  | i :: is, L, y :: ys, q => by
    obtain ⟨⟨P, h⟩, q⟩ := q
    show adr (puts (OwnK.upd L i y) is ys) = _
    rw [puts_adr (q.upd h)]
    exact adr_upd (P' := y.2) h
  | [], _, _ :: _, q => q.elim
  | _ :: _, _, [], q => q.elim
theorem puts_mem : ∀ {is : List Nat} {L : HL} {ys : HL} {x : Item}, Fit2 L is ys → (adr L).Nodup → x ∈ puts L is ys → x ∈ ys ∨ (x ∈ L ∧ x.1 ∉ adr ys)
  | [], L, [], x, _, _, h => Or.inr ⟨h, fun q => nomatch q⟩
  | i :: is, L, y :: ys, x, q, hn, h => by
    obtain ⟨⟨P, e⟩, q⟩ := q
    have h' : x ∈ puts (OwnK.upd L i y) is ys := h
    have hn' : (adr (OwnK.upd L i y)).Nodup := by rw [show adr (OwnK.upd L i y) = adr L from adr_upd (P' := y.2) e]; exact hn
    rcases puts_mem (q.upd e) hn' h' with r | ⟨r, r2⟩
    · exact Or.inl (List.mem_cons_of_mem _ r)
    · rcases upd_mem' e hn r with rfl | ⟨r, r3⟩
      · exact Or.inl List.mem_cons_self
      · exact Or.inr ⟨r, fun z => (List.mem_cons.mp z).elim r3 r2⟩
  | [], _, _ :: _, _, q, _, _ => q.elim
  | _ :: _, _, [], _, q, _, _ => q.elim
theorem fit2_of : ∀ {is : List Nat} {L : HL} {ys : HL}, (pick L is).length = is.length → adr ys = adr (pick L is) → Fit2 L is ys
  | [], L, [], _, _ => trivial
  | [], L, y :: ys, _, h => by cases h
  | i :: is, L, ys, hl, h => by
    unfold pick at hl h
    cases q : nth L i with
    | none =>
      rw [q] at hl
      have : ∀ js : List Nat, (pick L js).length ≤ js.length := fun js => by
        induction js with
        | nil => exact Nat.le_refl _
        | cons j r ih =>
          unfold pick
          cases nth L j with
          | none => exact Nat.le_succ_of_le ih
          | some _ => exact Nat.succ_le_succ ih
      have := this is
      rw [List.length_cons] at hl
      have hl' : (pick L is).length = is.length + 1 := hl
      omega
    | some z =>
      rw [q] at hl h
      cases ys with
      | nil => cases h
      | cons y ys =>
        have e : y.1 = z.1 := (List.cons.inj h).1
        exact ⟨⟨z.2, by rw [e]; exact q⟩, fit2_of (Nat.succ.inj hl) (List.cons.inj h).2⟩
theorem Good.call {n0 : Nat} {B : Addr → Prop} {h h' : Heap} {L L0 L1 : HL} {is : List Nat} (G : Good B h L) (hp : OwnK.pick L is = L0) (hl : L0.length = is.length)
    (K : Keep h h' (adr L0)) (ha : (adr L1).take L0.length = adr L0) (G1 : Good (fun a => n0 ≤ a ∧ (a ∈ adr L0 ∨ h.size ≤ a)) h' L1) (hB : ∀ a, n0 ≤ a → h.size ≤ a → B a) :
    Good B h' (puts L is (L1.take L0.length) ++ L1.drop L0.length) := by
  subst hp
  generalize hn : (OwnK.pick L is).length = n at *
  have ha' : adr (L1.take n) = adr (OwnK.pick L is) := by rw [← ha]; simp [adr, List.map_take]
  have F : Fit2 L is (L1.take n) := fit2_of (hn.trans hl) ha'
  have hsplit : L1 = L1.take n ++ L1.drop n := (List.take_append_drop n L1).symm
  have hnd := G1.1
  rw [hsplit, adr, List.map_append] at hnd
  obtain ⟨-, hd2, hdis⟩ := List.nodup_append.mp hnd
  have hnew : ∀ x ∈ L1.drop n, n0 ≤ x.1 ∧ h.size ≤ x.1 := fun x hx => by
    obtain ⟨⟨g1, g2⟩, -⟩ := G1.2 x (List.mem_of_mem_drop hx)
    refine ⟨g1, g2.elim (fun q => ?_) id⟩
    rw [← ha'] at q
    exact absurd rfl (hdis _ q _ (mem_adr hx))
  refine ⟨?_, fun x hx => ?_⟩
  · rw [adr, List.map_append]
    refine List.nodup_append.mpr ⟨by rw [show (puts L is (L1.take n)).map (·.1) = adr L from puts_adr F]; exact G.1, hd2, fun a hx b hy => ?_⟩
    have ha1 : a ∈ adr L := by rw [← puts_adr F]; exact hx
    obtain ⟨y, hy', rfl⟩ := List.mem_map.mp hy
    exact Nat.ne_of_lt (Nat.lt_of_lt_of_le (G.lt ha1) (hnew y hy').2)
  · rcases List.mem_append.mp hx with hx | hx
    · rcases puts_mem F G.1 hx with hx | ⟨hx, ne⟩
      · refine ⟨?_, (G1.2 x (List.mem_of_mem_take hx)).2⟩
        have q : x.1 ∈ adr (OwnK.pick L is) := by rw [← ha']; exact mem_adr hx
        obtain ⟨y, hy, e⟩ := List.mem_map.mp q
        obtain ⟨i, -, hi⟩ := pick_mem hy
        rw [← e]; exact G.base hi
      · obtain ⟨b, c, h1, h2⟩ := G.2 x hx
        exact ⟨b, c, K.2.1 _ _ h1 (by rw [← ha']; exact ne), h2⟩
    · exact ⟨hB _ (hnew x hx).1 (hnew x hx).2, (G1.2 x (List.mem_of_mem_drop hx)).2⟩
abbrev FV := String × String × String × Value
def FldC (Z : State) (c : Cell) (f : FV) : Prop := ∃ (cf : ClassId) (k : Class) (i : Nat) (fd : Field), Z.fieldFound? f.1 f.2.1 f.2.2.1 = some (cf, k, i, fd) ∧ fd.isStatic = false ∧ Z.vm.assignable c.cls cf = true ∧ c.slots[fd.slot]? = some f.2.2.2
def slots (Z : State) (fs : List FV) : List Nat := fs.map fun f => RoadKit.slotOf Z f.1 f.2.1 f.2.2.1
def Obj (Z : State) (C : String) (fs : List FV) (c : Cell) : Prop := (Z.vm.findClass C = some c.cls ∧ (∃ k, Z.vm.classes[c.cls]? = some k ∧ (k.kind = .ordinary → c.slots.size = k.instanceTypes.size)) ∧ c.vm.isStatics = false ∧ c.vm ≠ .unknown) ∧ (∀ f ∈ fs, FldC Z c f) ∧ (slots Z fs).Nodup
def Ary (Z : State) (ty : FieldType) (vs : List Value) (c : Cell) : Prop := (Z.isArrayOf c ty ∧ c.vm ≠ .unknown) ∧ c.slots.toList = vs ∧ ∀ v ∈ vs, fits ty v = true
def AryR (Z : State) (C : String) (vs : List Value) (c : Cell) : Prop := Ary Z (.object C) vs c ∧ Ovr Z c.cls C
theorem Obj.exa {Z : State} {C : String} {fs : List FV} {c : Cell} {h : Heap} {a : Addr} (O : Obj Z C fs c) (hc : h[a]? = some c) : Exa Z h a C := by
  obtain ⟨⟨h1, ⟨k, h2, h3⟩, h4, -⟩, -⟩ := O
  exact ⟨c, k, hc, h1, h2, h4, h3⟩
theorem Obj.fld {Z : State} {C : String} {fs : List FV} {c : Cell} {h : Heap} {a : Addr} (O : Obj Z C fs c) (hc : h[a]? = some c) {j : Nat} {R0 n d : String} {v : Value} (hj : nth fs j = some (R0, n, d, v)) : Fld Z h a R0 n d v := by
  obtain ⟨⟨-, -, h4, h5⟩, hf, -⟩ := O
  obtain ⟨cf, k, i, fd, g1, g2, g3, g4⟩ := hf _ (nth_mem hj)
  exact ⟨c, cf, k, i, fd, hc, g1, g2, h5, h4, g3, g4⟩
theorem slots_upd {Z : State} : ∀ {fs : List FV} {j : Nat} {R0 n d : String} {v w : Value}, nth fs j = some (R0, n, d, v) → slots Z (upd fs j (R0, n, d, w)) = slots Z fs
  | [], _, _, _, _, _, _, h => by cases h
  | y :: r, 0, _, _, _, _, _, h => by cases h; rfl
  | y :: r, k + 1, _, _, _, _, _, h => congrArg (RoadKit.slotOf Z y.1 y.2.1 y.2.2.1 :: ·) (slots_upd (fs := r) h)
theorem upd_memF {Z : State} : ∀ {fs : List FV} {j : Nat} {R0 n d : String} {v w : Value} {x : FV}, nth fs j = some (R0, n, d, v) → (slots Z fs).Nodup → x ∈ upd fs j (R0, n, d, w) → x = (R0, n, d, w) ∨ (x ∈ fs ∧ RoadKit.slotOf Z x.1 x.2.1 x.2.2.1 ≠ RoadKit.slotOf Z R0 n d)
  | [], _, _, _, _, _, _, _, h, _, _ => by cases h
  | z :: r, 0, R0, n, d, v, w, x, h, hn, hx => by
    cases h
    rcases List.mem_cons.mp hx with q | q
    · exact Or.inl q
    · refine Or.inr ⟨List.mem_cons_of_mem _ q, fun e => ?_⟩
      refine (List.nodup_cons.mp hn).1 ?_
      show RoadKit.slotOf Z R0 n d ∈ _
      rw [← e]; exact List.mem_map.mpr ⟨x, q, rfl⟩
  | z :: r, k + 1, R0, n, d, v, w, x, h, hn, hx => by
    rcases List.mem_cons.mp hx with q | q
    · subst q
      refine Or.inr ⟨List.mem_cons_self, fun e => ?_⟩
      have h' : nth r k = some (R0, n, d, v) := h
      refine (List.nodup_cons.mp hn).1 ?_
      show RoadKit.slotOf Z x.1 x.2.1 x.2.2.1 ∈ _
      rw [e]; exact List.mem_map.mpr ⟨_, nth_mem h', rfl⟩
    · exact (upd_memF (fs := r) h (List.nodup_cons.mp hn).2 q).imp id fun q => ⟨List.mem_cons_of_mem _ q.1, q.2⟩
theorem Obj.put {Z : State} {C : String} {fs : List FV} {c : Cell} (O : Obj Z C fs c) {j : Nat} {R0 n d : String} {v w : Value} (hj : nth fs j = some (R0, n, d, v)) (hs : RoadKit.slotOf Z R0 n d < c.slots.size) : Obj Z C (upd fs j (R0, n, d, w)) (c.setSlot (RoadKit.slotOf Z R0 n d) w) := by
  obtain ⟨⟨h1, ⟨k, h2, h3⟩, h4, h5⟩, hf, hn⟩ := O
  refine ⟨⟨h1, ⟨k, h2, fun q => by rw [sz_set]; exact h3 q⟩, h4, h5⟩, fun f hfm => ?_, by rw [slots_upd hj]; exact hn⟩
  rcases upd_memF hj hn hfm with rfl | ⟨hfm, ne⟩
  · obtain ⟨cf, k, i, fd, g1, g2, g3, g4⟩ := hf _ (nth_mem hj)
    refine ⟨cf, k, i, fd, g1, g2, g3, ?_⟩
    have e : RoadKit.slotOf Z R0 n d = fd.slot := by simp only [RoadKit.slotOf]; rw [show Z.fieldFound? R0 n d = _ from g1]; rfl
    rw [e] at hs ⊢
    simp [Cell.setSlot, hs]
  · obtain ⟨cf, k, i, fd, g1, g2, g3, g4⟩ := hf _ hfm
    refine ⟨cf, k, i, fd, g1, g2, g3, ?_⟩
    have e : RoadKit.slotOf Z f.1 f.2.1 f.2.2.1 = fd.slot := by simp only [RoadKit.slotOf]; rw [g1]; rfl
    rw [e] at ne
    simp only [Cell.setSlot]
    rw [Array.getElem?_setIfInBounds_ne (Ne.symm ne)]
    exact g4
theorem wr_live {h h' : Heap} {a : Addr} {sl : Nat} {v : Value} (W : Wr h h' a sl v) {P P' : Cell → Prop} (L : ∃ c, h[a]? = some c ∧ P c) (q : ∀ c, h[a]? = some c → P c → sl < c.slots.size → P' (c.setSlot sl v)) :
    Live h' (a, P') ∧ ∀ (x : Addr) (c : Cell), x ≠ a → h[x]? = some c → h'[x]? = some c := by
  obtain ⟨cell, h1, h2, h3, rfl⟩ := W
  obtain ⟨c, g1, g2⟩ := L
  cases h1.symm.trans g1
  refine ⟨⟨_, ?_, q cell h1 g2 h3⟩, fun x c ne hx => ?_⟩
  · show (h.setIfInBounds a _)[a]? = _
    rw [Array.getElem?_setIfInBounds_self_of_lt (Array.getElem?_eq_some_iff.mp h1).1]
  · rw [Array.getElem?_setIfInBounds_ne (Ne.symm ne)]; exact hx
abbrev FT := String × String × String × FieldType
def LaidAll (Z : State) (a0 : Array Value) (C : String) : List FT → Prop
  | [] => True
  | f :: r => (Laid Z a0 C f.1 f.2.1 f.2.2.1 ∧ parseFieldDescriptor f.2.2.1 = some f.2.2.2) ∧ LaidAll Z a0 C r
theorem LaidAll.mem {Z : State} {a0 : Array Value} {C : String} : ∀ {fs : List FT}, LaidAll Z a0 C fs → ∀ f ∈ fs, Laid Z a0 C f.1 f.2.1 f.2.2.1 ∧ parseFieldDescriptor f.2.2.1 = some f.2.2.2
  | [], _, _, q => nomatch q
  | g :: r, H, f, q => (List.mem_cons.mp q).elim (fun e => e ▸ H.1) (LaidAll.mem H.2 f)
def fresh (fs : List FT) : List FV := fs.map fun f => (f.1, f.2.1, f.2.2.1, defaultValue f.2.2.2)
theorem nodup_slots {Z : State} {a0 : Array Value} {C : String} : ∀ {fs : List FT}, LaidAll Z a0 C fs → (fs.map (·.2.1)).Nodup → (slots Z (fresh fs)).Nodup
  | [], _, _ => List.nodup_nil
  | g :: r, H, hn => by
    obtain ⟨h1, h2⟩ := List.nodup_cons.mp hn
    refine List.nodup_cons.mpr ⟨fun q => ?_, nodup_slots H.2 h2⟩
    obtain ⟨y, hy, e⟩ := List.mem_map.mp q
    obtain ⟨f, hf, rfl⟩ := List.mem_map.mp hy
    obtain ⟨l1, l2⟩ := H.2.mem f hf
    refine slot_ne H.1.1 l1 (fun q => h1 ?_) H.1.2 l2 e.symm
    show g.2.1 ∈ _
    rw [q]; exact List.mem_map.mpr ⟨f, hf, rfl⟩
theorem obj_new {Z : State} {a0 : Array Value} {C : String} {fs : List FT} {h : Heap} {a : Addr} (H : LaidAll Z a0 C fs) (hn : (fs.map (·.2.1)).Nodup) (E : Exa Z h a C) (hv : ∃ cell : Cell, h[a]? = some cell ∧ cell.vm = .none)
    (D : ∀ {O nm d : String} {ty : FieldType}, Laid Z a0 C O nm d → parseFieldDescriptor d = some ty → Fld Z h a O nm d (defaultValue ty)) : Live h (a, Obj Z C (fresh fs)) := by
  obtain ⟨c, k, h1, h2, h3, h4, h5⟩ := E
  obtain ⟨c', g1, g2⟩ := hv
  cases h1.symm.trans g1
  refine ⟨c, h1, ⟨h2, ⟨k, h3, h5⟩, h4, by rw [g2]; exact fun q => nomatch q⟩, fun f hf => ?_, nodup_slots H hn⟩
  obtain ⟨g, hg, rfl⟩ := List.mem_map.mp hf
  obtain ⟨l1, l2⟩ := H.mem g hg
  obtain ⟨c'', cf, k', i, fd, q1, q2, q3, -, -, q6, q7⟩ := D l1 l2
  cases h1.symm.trans q1
  exact ⟨cf, k', i, fd, q2, q3, q6, q7⟩
theorem Ary.arr {Z : State} {ty : FieldType} {vs : List Value} {c : Cell} {h : Heap} {a : Addr} (A : Ary Z ty vs c) (hc : h[a]? = some c) : Arr Z h a c ty := ⟨hc, A.1⟩
theorem Ary.size {Z : State} {ty : FieldType} {vs : List Value} {c : Cell} (A : Ary Z ty vs c) : c.slots.size = vs.length := by rw [← A.2.1]; simp
theorem Ary.get {Z : State} {ty : FieldType} {vs : List Value} {c : Cell} (A : Ary Z ty vs c) {i : Nat} {v : Value} (h : nth vs i = some v) : c.slots[i]? = some v := by
  rw [nth_get, ← A.2.1] at h; rw [← h]; simp
theorem Ary.put {Z : State} {ty : FieldType} {vs : List Value} {c : Cell} (A : Ary Z ty vs c) {i : Nat} {v : Value} (hf : fits ty v = true) : Ary Z ty (upd vs i v) (c.setSlot i v) := by
  refine ⟨A.1, ?_, fun x hx => (upd_mem hx).elim (fun e => e ▸ hf) (A.2.2 x)⟩
  rw [upd_set, ← A.2.1]
  simp [Cell.setSlot]
theorem ary_new {Z : State} {ty : FieldType} {k : ClassId} {n : Int32} {h : Heap} {a : Addr} (A : Arr Z h a (newA k ty n) ty) : Ary Z ty (List.replicate n.toNatClampNeg (defaultValue ty)) (newA k ty n) := by
  refine ⟨A.2, by simp [newA], fun v hv => ?_⟩
  rw [(List.mem_replicate.mp hv).2]
  cases ty <;> rfl
theorem in_of {j : Int32} {i : Nat} {c : Cell} {vs : List Value} (hs : c.slots.size = vs.length) (h0 : ¬ j < 0) (hj : j.toNatClampNeg = i) (hi : i < vs.length) : ¬ (j < 0 ∨ c.slots.size ≤ j.toNatClampNeg) := fun q => q.elim h0 fun q => by rw [hs, hj] at q; exact Nat.not_lt.mpr q hi

def RoL (h : Heap) (L M : HL) : Prop := ∀ x ∈ M, Live h x ∧ x.1 ∉ adr L
def Bs (Z : State) (EL : List (String × Nat)) (vm : Vm) (h : Heap) (h0 : Heap) (L0 : HL) (a : Addr) : Prop := Z.heap.size ≤ a ∧ (a ∈ adr L0 ∨ h0.size ≤ a) ∧ Safe Z EL vm h a
def St (p : Program) (l : Launch) (e : Env) (R : Room) (s : State) (m : MethodId) (args : Array Value) (below : List Frame) (meth : Method) (c : Code) (Z : State) (EL : List (String × Nat)) (h0 : Heap) (L0 : HL) (T : State) (L M : HL) (cells slots : Nat) : Prop :=
  ∃ locs vm0, Stand p l e R (s.setVm vm0) m args below meth c T locs cells slots ∧ s.Since vm0 T.heap.size ∧ CHr Z EL s.vm h0 vm0 T.heap ∧ Fr Z.heap.size locs ∧ Old Z Z.heap.size T.heap ∧ Keep h0 T.heap (adr L0) ∧ Good (Bs Z EL vm0 T.heap h0 L0) T.heap L ∧ RoL T.heap L M
def Cx (p : Program) (s : State) (m : MethodId) (meth : Method) (c : Code) (Z : State) (EL : List (String × Nat)) (own : String) (bytes : ByteArray) (maxl : Nat) (ret : Option FieldType) (nm : String) : Prop :=
  p.tables.exec = Jvm.exec ∧ c.code = bytes ∧ c.maxLocals = maxl ∧ s.vm.findClass own = some m.cls ∧ meth.sig.returnType = ret ∧ meth.locks = false ∧ Z.Warmed39 s.vm ∧ meth.name = nm ∧ ∃ a0, EW Z a0 EL
def RoN (Z : State) (EL : List (String × Nat)) (vm : Vm) (h0 : Heap) (a : Addr) : Prop := Bk Z EL vm h0 a ∨ h0.size ≤ a
def Go (p : Program) (e : Env) (below : List Frame) (Q : Outcome → State → Prop) (t : State) : Prop := ∃ s₂ o, Steps p.tables e below t s₂ ∧ s₂.status = .running ∧ Ended s₂ below o ∧ Q o s₂
def Post (Z : State) (EL : List (String × Nat)) (vmc : Vm) (h0 : Heap) (L0 : HL) (Rel : Option Value → HL → HL → Prop) (v : Option Value) (U : State) (Ls : List Loc) : Prop :=
  Fr Z.heap.size Ls ∧ Old Z Z.heap.size U.heap ∧ Keep h0 U.heap (adr L0) ∧ CHr Z EL vmc h0 U.vm U.heap ∧ ∃ L1 M1, Rel v L1 M1 ∧ (adr L1).take L0.length = adr L0 ∧ Good (Bs Z EL U.vm U.heap h0 L0) U.heap L1 ∧ ∀ x ∈ M1, Live U.heap x ∧ x.1 ∉ adr L1 ∧ RoN Z EL vmc h0 x.1
def Qb (R : Room) (s : State) (Z : State) (EL : List (String × Nat)) (vmc : Vm) (h0 : Heap) (L0 : HL) (Rel : Option Value → HL → HL → Prop) (o : Outcome) (U : State) : Prop :=
  ∃ v Ls, o = .returned v ∧ Post Z EL vmc h0 L0 Rel v U Ls ∧ ReturnedEndW s o U Ls R.cells R.slots
def Con (l : Launch) (Z : State) (EL : List (String × Nat)) (y : MethodName) (bytes : ByteArray) (maxl : Nat) (ret : Option FieldType) (rm : Room) (as' : Array Value) (L0 M0 : HL) (Rel : Option Value → HL → HL → Prop) : Prop :=
  ∀ (ws : List Jvm.Cond) (h0 : Heap) (vmc : Vm), Old Z Z.heap.size h0 → Good (fun a => Z.heap.size ≤ a ∧ Safe Z EL vmc h0 a) h0 L0 → RoL h0 L0 M0 → (∃ a0, EW Z a0 EL) →
    MetFree l y (head1 (Jvm.Cond.code y bytes maxl ret :: ws) rm) (fun a U => a = as' ∧ Z.Warmed39 U.vm ∧ U.heap = h0 ∧ CHr Z EL vmc h0 U.vm h0) (fun _ _ _ _ _ => True) (fun _ U o U' => Qb rm U Z EL vmc h0 L0 Rel o U')
def Qw (R : Room) (s : State) (Z : State) (EL : List (String × Nat)) (h0 : Heap) (L0 : HL) (Rel : Option Value → HL → HL → Prop) (o : Outcome) (U : State) : Prop := Qb R s Z EL s.vm h0 L0 Rel o U
theorem RoN.back {Z : State} {EL : List (String × Nat)} {vmc vm : Vm} {h0 h : Heap} {a : Addr} (C : CHr Z EL vmc h0 vm h) (q : RoN Z EL vm h a) : RoN Z EL vmc h0 a := q.elim (fun q => C.2.2 a q) fun q => Or.inr (Nat.le_trans C.2.1 q)
theorem Con.of_body {l : Launch} {Z : State} {EL : List (String × Nat)} {y : MethodName} {bytes : ByteArray} {maxl : Nat} {ret : Option FieldType} {rm : Room} {as' : Array Value} {L0 M0 : HL} {Rel : Option Value → HL → HL → Prop} {Ls : Array Slot} (hpl : plainFor y = true) (hef : ∀ m, entryFrame m as' maxl = mkF m 0 Ls [])
    (body : ∀ (p : Program) (e : Env) (s : State) (m : MethodId) (below : List Frame) (meth : Method) (c : Code) (T : State) (h0 : Heap), Cx p s m meth c Z EL y.cls bytes maxl ret y.name → St p l e rm s m as' below meth c Z EL h0 L0 T L0 M0 0 0 → Go p e below (Qw rm s Z EL h0 L0 Rel) (T.setTop (mkF m 0 Ls []))) :
    Con l Z EL y bytes maxl ret rm as' L0 M0 Rel := by
  intro ws h0 vmc hO hG hM hE
  refine MetFree.of_bodySF hpl hisR ?_
  intro p e s m args below meth c s₁ Bd hml0 hP hK
  obtain ⟨rfl, hZ, hh, hC⟩ := hP
  have e0 : s₁.heap = h0 := by rw [← hh, Bd.state]; rfl
  have X0 := Stand.of_body Bd
  have X1 : Stand p l e rm (s.setVm s.vm) m args below meth c s₁ [] 0 0 := X0
  have hs0 : s.heap.size ≤ s₁.heap.size := by rw [e0, hh]; exact Nat.le_refl _
  have S0 : St p l e rm s m args below meth c Z EL h0 L0 s₁ L0 M0 0 0 := ⟨[], s.vm, X1, ⟨State.Warmed39.refl s, (State.WarmedH.refl s).no_new_pair _⟩, by rw [e0]; exact CHr.refl hC.1, Fr.nil _, by rw [e0]; exact hO, by rw [e0]; exact Keep.refl _ _, by rw [e0]; exact hG.mono fun x hx q => ⟨q.1, Or.inl (mem_adr hx), hC.safe (hG.lt (mem_adr hx)) q.2⟩, by rw [e0]; exact hM⟩
  rw [hef]
  obtain ⟨s2, o, h1, h2, h3, v, Lc, ho, ⟨q1, q2, q3, q4, L1, M1, q5, q6, q7, q8⟩, hr⟩ := body p e s m below meth c s₁ h0 ⟨Bd.exec, Bd.bytes, hml0, findClass_of_methodNamed Bd.named, Bd.returns, Bd.notSynchronized, hZ, (name_of_methodNamed Bd.named Bd.method).1, hE⟩ S0
  exact ⟨s2, o, h1, h2, h3, v, Lc, ho, ⟨q1, q2, q3, hC.trans q4, L1, M1, q5, q6, q7, fun x hx => ⟨(q8 x hx).1, (q8 x hx).2.1, (q8 x hx).2.2.back hC⟩⟩, hr⟩

section Laws
variable {p : Program} {l : Launch} {e : Env} {R : Room} {s : State} {m : MethodId} {args : Array Value} {below : List Frame} {meth : Method} {c : Code} {Z : State} {EL : List (String × Nat)} {h0 : Heap} {L0 : HL} {own : String} {bytes : ByteArray} {maxl : Nat} {ret : Option FieldType} {nm : String} {T : State} {L M : HL} {cells slots : Nat} {Q : Outcome → State → Prop} {pc : Nat} {Ls : Array Slot} {st : List Value} {a0 : Array Value}

theorem RoL.ext {h h' : Heap} (q : RoL h L M) (E : Ext h h') : RoL h' L M := fun x hx => by
  obtain ⟨⟨c, h1, h2⟩, r⟩ := q x hx; exact ⟨⟨c, E.2 _ _ h1, h2⟩, r⟩
theorem RoL.new {h h' : Heap} {P : Cell → Prop} (q : RoL h L M) (E : Ext h h') : RoL h' (L ++ [(h.size, P)]) M := fun x hx => by
  obtain ⟨L1, r⟩ := q x hx
  refine ⟨((q.ext E) x hx).1, fun z => ?_⟩
  rw [adr, List.map_append] at z
  rcases List.mem_append.mp z with z | z
  · exact r z
  · rw [List.map_cons, List.map_nil] at z
    exact absurd (List.mem_singleton.mp z) (Nat.ne_of_lt L1.lt)
theorem RoL.wr {h h' : Heap} {i : Nat} {a : Addr} {P P' : Cell → Prop} (q : RoL h L M) (hi : nth L i = some (a, P)) (k : ∀ (x : Addr) (c : Cell), x ≠ a → h[x]? = some c → h'[x]? = some c) : RoL h' (upd L i (a, P')) M := fun x hx => by
  obtain ⟨⟨c, h1, h2⟩, r⟩ := q x hx
  refine ⟨⟨c, k _ _ (fun e => r (e ▸ mem_adr (nth_mem hi))) h1, h2⟩, ?_⟩
  rw [adr_upd hi]; exact r
theorem St.good (S : St p l e R s m args below meth c Z EL h0 L0 T L M cells slots) : ∃ B, Good B T.heap L := by obtain ⟨_, _, -, -, -, -, -, -, G, -⟩ := S; exact ⟨_, G⟩
theorem St.old (S : St p l e R s m args below meth c Z EL h0 L0 T L M cells slots) : Old Z Z.heap.size T.heap := by obtain ⟨_, _, -, -, -, -, O, -⟩ := S; exact O
theorem St.here (S : St p l e R s m args below meth c Z EL h0 L0 T L M cells slots) : At T m c below := by obtain ⟨_, _, X, -⟩ := S; exact X.here
theorem Cx.hd (C : Cx p s m meth c Z EL own bytes maxl ret nm) {r : Except DecodeError (Instr × Nat)} (h : decode bytes pc = r) : decode c.code pc = r := by rw [C.2.1]; exact h
theorem St.at (S : St p l e R s m args below meth c Z EL h0 L0 T L M cells slots) (i : Nat) {a : Addr} {P : Cell → Prop} (hi : nth L i = some (a, P)) : ∃ c, T.heap[a]? = some c ∧ P c := by obtain ⟨B, G⟩ := S.good; exact G.at hi
theorem St.atM (S : St p l e R s m args below meth c Z EL h0 L0 T L M cells slots) (i : Nat) {a : Addr} {P : Cell → Prop} (hi : nth M i = some (a, P)) : ∃ c, T.heap[a]? = some c ∧ P c := by obtain ⟨_, _, -, -, -, -, -, -, -, q⟩ := S; exact (q _ (nth_mem hi)).1
theorem St.fld (S : St p l e R s m args below meth c Z EL h0 L0 T L M cells slots) (i : Nat) {a : Addr} {K : String} {fs : List FV} (hi : nth L i = some (a, Obj Z K fs)) (j : Nat) {O n d : String} {v : Value} (hj : nth fs j = some (O, n, d, v)) : Fld Z T.heap a O n d v := by obtain ⟨c, h, P⟩ := S.at i hi; exact P.fld h hj
theorem St.fldM (S : St p l e R s m args below meth c Z EL h0 L0 T L M cells slots) (i : Nat) {a : Addr} {K : String} {fs : List FV} (hi : nth M i = some (a, Obj Z K fs)) (j : Nat) {O n d : String} {v : Value} (hj : nth fs j = some (O, n, d, v)) : Fld Z T.heap a O n d v := by obtain ⟨c, h, P⟩ := S.atM i hi; exact P.fld h hj
theorem St.exa (S : St p l e R s m args below meth c Z EL h0 L0 T L M cells slots) (i : Nat) {a : Addr} {K : String} {fs : List FV} (hi : nth L i = some (a, Obj Z K fs)) : Exa Z T.heap a K := by obtain ⟨c, h, P⟩ := S.at i hi; exact P.exa h
theorem St.exaM (S : St p l e R s m args below meth c Z EL h0 L0 T L M cells slots) (i : Nat) {a : Addr} {K : String} {fs : List FV} (hi : nth M i = some (a, Obj Z K fs)) : Exa Z T.heap a K := by obtain ⟨c, h, P⟩ := S.atM i hi; exact P.exa h
theorem St.oldS (S : St p l e R s m args below meth c Z EL h0 L0 T L M cells slots) {O n d : String} {v : Value} (F : Sta Z Z.heap O n d v) : Sta Z T.heap O n d v := F.ext S.old.2
theorem St.oldA (S : St p l e R s m args below meth c Z EL h0 L0 T L M cells slots) {a : Addr} {P : Cell → Prop} (F : ∃ c, Z.heap[a]? = some c ∧ P c) : ∃ c, T.heap[a]? = some c ∧ P c := by obtain ⟨c, h, q⟩ := F; exact ⟨c, S.old.2.2 _ _ h, q⟩
theorem St.ne (S : St p l e R s m args below meth c Z EL h0 L0 T L M cells slots) {i j : Nat} {x y : Item} (hi : nth L i = some x) (hj : nth L j = some y) (h : i ≠ j) : x.1 ≠ y.1 := by obtain ⟨B, G⟩ := S.good; exact fun q => h (nth_inj G.1 hi hj q)
theorem St.weak (S : St p l e R s m args below meth c Z EL h0 L0 T L M cells slots) {cells' slots' : Nat} (h1 : cells ≤ cells') (h2 : slots ≤ slots') : St p l e R s m args below meth c Z EL h0 L0 T L M cells' slots' := by obtain ⟨locs, vm0, X, r⟩ := S; exact ⟨locs, vm0, { X with same := X.same.mono h1 h2 }, r⟩
theorem St.pick (S : St p l e R s m args below meth c Z EL h0 L0 T L M cells slots) (is js : List Nat) {L' M' : HL} (h : OwnK.pick L is = L') (h' : OwnK.pick M js = M') (hn : is.Nodup) : St p l e R s m args below meth c Z EL h0 L0 T L' M' cells slots := by 
  obtain ⟨locs, vm0, X, a1, a2, a3, a4, a5, G, q⟩ := S
  refine ⟨locs, vm0, X, a1, a2, a3, a4, a5, h ▸ G.pick hn, fun x hx => ?_⟩
  subst h h'
  obtain ⟨j, -, hj⟩ := pick_mem hx
  obtain ⟨r1, r2⟩ := q x (nth_mem hj)
  refine ⟨r1, fun z => r2 ?_⟩
  obtain ⟨y, hy, e⟩ := List.mem_map.mp z
  obtain ⟨i, -, hi⟩ := pick_mem hy
  exact e ▸ mem_adr (nth_mem hi)
theorem rl0 {h : Heap} {N : HL} : RoL h N [] := fun _ q => nomatch q
theorem rlS {h : Heap} {N K : HL} {x : Item} (lv : ∃ c, h[x.1]? = some c ∧ x.2 c) (n : x.1 ∉ adr N) (r : RoL h N K) : RoL h N (x :: K) := fun y hy => (List.mem_cons.mp hy).elim (fun e => e ▸ ⟨lv, n⟩) (r y)
theorem St.imp (S : St p l e R s m args below meth c Z EL h0 L0 T L M cells slots) (i : Nat) {a : Addr} {P P' : Cell → Prop} (hi : nth L i = some (a, P)) (h : ∀ c, P c → P' c) : St p l e R s m args below meth c Z EL h0 L0 T (upd L i (a, P')) M cells slots := by 
  obtain ⟨locs, vm0, X, a1, a2, a3, a4, a5, G, q⟩ := S
  obtain ⟨c, h1, h2⟩ := G.at hi
  exact ⟨locs, vm0, X, a1, a2, a3, a4, a5, G.set hi (fun _ _ _ z => z) ⟨c, h1, h c h2⟩, q.wr hi fun _ _ _ z => z⟩
theorem St.frz (S : St p l e R s m args below meth c Z EL h0 L0 T L M cells slots) (is : List Nat) {L' : HL} (hp : OwnK.pick L is = L') (hn : is.Nodup) (i : Nat) {x : Item} (hi : nth L i = some x) (hi2 : i ∉ is) : St p l e R s m args below meth c Z EL h0 L0 T L' (M ++ [x]) cells slots := by 
  obtain ⟨locs, vm0, X, a1, a2, a3, a4, a5, G, q⟩ := S
  refine ⟨locs, vm0, X, a1, a2, a3, a4, a5, hp ▸ G.pick hn, fun y hy => ?_⟩
  have key : ∀ z : Item, z.1 ∈ adr L' → ∃ j ∈ is, ∃ w, nth L j = some w ∧ w.1 = z.1 := fun z hz => by
    subst hp
    obtain ⟨u, hu, e⟩ := List.mem_map.mp hz
    obtain ⟨j, hj, e2⟩ := pick_mem hu
    exact ⟨j, hj, u, e2, e⟩
  rcases List.mem_append.mp hy with hy | hy
  · refine ⟨(q y hy).1, fun z => ?_⟩
    obtain ⟨j, hj, w, hw, e⟩ := key y z
    exact (q y hy).2 (e ▸ mem_adr (nth_mem hw))
  · cases List.mem_singleton.mp hy
    refine ⟨(G.2 _ (nth_mem hi)).2, fun z => ?_⟩
    obtain ⟨j, hj, w, hw, e⟩ := key x z
    exact hi2 (nth_inj G.1 hi hw e.symm ▸ hj)
theorem St.as (S : St p l e R s m args below meth c Z EL h0 L0 T L M cells slots) {L' M' : HL} {cells' slots' : Nat} (h : L = L') (h' : M = M') (h1 : cells = cells') (h2 : slots = slots') : St p l e R s m args below meth c Z EL h0 L0 T L' M' cells' slots' := by subst h h' h1 h2; exact S
theorem Go.step {t t' : State} (h : ∀ target, Steps p.tables e below t' target → Steps p.tables e below t target) (k : Go p e below Q t') : Go p e below Q t := by
  obtain ⟨s2, o, h1, h2⟩ := k; exact ⟨s2, o, h _ h1, h2⟩
theorem Go.cut {α : Type} {H : α → Prop} {f : α → State} {t : State} (k : ∀ y, H y → Go p e below Q (f y)) (r : (∀ y, H y → Go p e below Q (f y)) → Go p e below Q t) : Go p e below Q t := r k
theorem Go.trans {t t' : State} (h : Steps p.tables e below t t') (k : Go p e below Q t') : Go p e below Q t := by
  obtain ⟨s2, o, h1, h2⟩ := k; exact ⟨s2, o, h.trans h1, h2⟩
theorem St.opn (C : Cx p s m meth c Z EL own bytes maxl ret nm) (S : St p l e R s m args below meth c Z EL h0 L0 T L M cells slots) : ∃ (s' : State) (locs : List Loc), Stand p l e R s' m args below meth c T locs cells slots ∧ Z.Warmed39 s'.vm ∧ s'.vm.findClass own = some m.cls ∧
    (∀ T', Stand p l e R s' m args below meth c T' locs cells slots → T'.heap = T.heap → St p l e R s m args below meth c Z EL h0 L0 T' L M cells slots) ∧
    (∀ (T' : State) (h' : Heap) (P : Cell → Prop) (k n : Nat), Stand p l e R s' m args below meth c T' locs (cells + k) (slots + n) → T'.heap = h' → Ext T.heap h' → Live h' (T.heap.size, P) → St p l e R s m args below meth c Z EL h0 L0 T' (L ++ [(T.heap.size, P)]) M (cells + k) (slots + n)) ∧
    (∀ (T' : State) (h' : Heap) (i : Nat) (a : Addr) (P P' : Cell → Prop) (sl : Nat) (v : Value), nth L i = some (a, P) → Stand p l e R s' m args below meth c T' (locs ++ [⟨a, sl⟩]) cells slots → T'.heap = h' → Wr T.heap h' a sl v → (∀ c, T.heap[a]? = some c → P c → sl < c.slots.size → P' (c.setSlot sl v)) → St p l e R s m args below meth c Z EL h0 L0 T' (upd L i (a, P')) M cells slots) := by
  obtain ⟨locs, vm0, X, hS, hC, N, O, K, G, q⟩ := S
  have hZ : Z.Warmed39 vm0 := State.Warmed39.trans C.2.2.2.2.2.2.1 hS.1
  have hsz : ∀ h' : Heap, T.heap.size ≤ h'.size → s.Since vm0 h'.size := fun h' g => ⟨hS.1, fun j p hj hp => by obtain ⟨x, y⟩ := hS.2 j p hj hp; exact ⟨x, Nat.lt_of_lt_of_le y g⟩⟩
  refine ⟨s.setVm vm0, locs, X, hZ, ?_, ?_, ?_, ?_⟩
  · show vm0.findClass own = _
    rw [hS.1.alike.findClass]; exact C.2.2.2.1
  · intro T' X' e'
    exact ⟨locs, vm0, X', by rw [e']; exact hS, by rw [e']; exact hC, N, by rw [e']; exact O, by rw [e']; exact K, by rw [e']; exact G, by rw [e']; exact q⟩
  · intro T' h' P k n X' e' E Lv
    subst e'
    have hC' := hC.trans (CHr.ext E hC.1)
    refine ⟨locs, vm0, X', hsz _ E.1, hC', N, O.ext E, K.ext E, ?_, q.new E⟩
    refine Good.new (B := Bs Z EL vm0 T'.heap h0 L0) ⟨G.1, fun x hx => ?_⟩ E Lv ⟨O.2.1, Or.inr K.1, ?_⟩
    · obtain ⟨⟨b1, b2, b3⟩, lv⟩ := G.2 x hx
      exact ⟨⟨b1, b2, b3.ext E hC.1⟩, lv⟩
    · exact (Safe.new (Nat.le_refl _)).ext E hC.1
  · intro T' h' i a P P' sl v hi X' e' W hP
    subst e'
    obtain ⟨b1, b2, b3⟩ := G.base hi
    obtain ⟨q1, q2⟩ := wr_live W (P' := P') (G.at hi) hP
    refine ⟨_, vm0, X', hsz _ (Nat.le_of_eq W.size.symm), hC.trans (CHr.wr W b3 hC.1), Fr.snoc X' N b1, O.wr W b1, K.wr W b2, ?_, q.wr hi q2⟩
    exact (G.set hi q2 q1).mono fun x _ z => ⟨z.1, z.2.1, Safe.wr W b3 hC.1 z.2.2⟩
theorem Cx.iload (C : Cx p s m meth c Z EL own bytes maxl ret nm) (S : St p l e R s m args below meth c Z EL h0 L0 T L M cells slots) {i : Nat} {v : Int32} (hd : decode bytes pc = .ok (.iload i, 2)) (pc' : Nat) (hp : pc + 2 = pc') (hl : Ls[i]? = some (.val (.int v))) (k : Go p e below Q (T.setTop (mkF m pc' Ls (.int v :: st)))) : Go p e below Q (T.setTop (mkF m pc Ls st)) := by
  subst hp; exact Go.step (fun t k => XS.iload S.here C.1 rfl (C.hd hd) hl k) k
theorem Cx.iloadN (C : Cx p s m meth c Z EL own bytes maxl ret nm) (S : St p l e R s m args below meth c Z EL h0 L0 T L M cells slots) {i : Fin 4} {v : Int32} (hd : decode bytes pc = .ok (.iload_n i, 1)) (pc' : Nat) (hp : pc + 1 = pc') (hl : Ls[i.val]? = some (.val (.int v))) (k : Go p e below Q (T.setTop (mkF m pc' Ls (.int v :: st)))) : Go p e below Q (T.setTop (mkF m pc Ls st)) := by
  subst hp; exact Go.step (fun t k => XS.iloadN S.here C.1 rfl (C.hd hd) hl k) k
theorem Cx.aload (C : Cx p s m meth c Z EL own bytes maxl ret nm) (S : St p l e R s m args below meth c Z EL h0 L0 T L M cells slots) {i : Nat} {v : Value} (hd : decode bytes pc = .ok (.aload i, 2)) (pc' : Nat) (hp : pc + 2 = pc') (hl : Ls[i]? = some (.val v)) (hv : v.isRef = true) (k : Go p e below Q (T.setTop (mkF m pc' Ls (v :: st)))) : Go p e below Q (T.setTop (mkF m pc Ls st)) := by
  subst hp; exact Go.step (fun t k => XS.aload S.here C.1 rfl (C.hd hd) hl hv k) k
theorem Cx.aloadN (C : Cx p s m meth c Z EL own bytes maxl ret nm) (S : St p l e R s m args below meth c Z EL h0 L0 T L M cells slots) {i : Fin 4} {v : Value} (hd : decode bytes pc = .ok (.aload_n i, 1)) (pc' : Nat) (hp : pc + 1 = pc') (hl : Ls[i.val]? = some (.val v)) (hv : v.isRef = true) (k : Go p e below Q (T.setTop (mkF m pc' Ls (v :: st)))) : Go p e below Q (T.setTop (mkF m pc Ls st)) := by
  subst hp; exact Go.step (fun t k => XS.aloadN S.here C.1 rfl (C.hd hd) hl hv k) k
theorem Cx.istore (C : Cx p s m meth c Z EL own bytes maxl ret nm) (S : St p l e R s m args below meth c Z EL h0 L0 T L M cells slots) {i : Nat} {x : Int32} (hd : decode bytes pc = .ok (.istore i, 2)) (pc' : Nat) (hp : pc + 2 = pc') (l' : Array Slot) (hl : storeLocals Ls i (.int x) = some l') (k : Go p e below Q (T.setTop (mkF m pc' l' st))) : Go p e below Q (T.setTop (mkF m pc Ls ((.int x) :: st))) := by
  subst hp; exact Go.step (fun t k => XS.istore S.here C.1 rfl (C.hd hd) rfl hl k) k
theorem Cx.istoreN (C : Cx p s m meth c Z EL own bytes maxl ret nm) (S : St p l e R s m args below meth c Z EL h0 L0 T L M cells slots) {i : Fin 4} {x : Int32} (hd : decode bytes pc = .ok (.istore_n i, 1)) (pc' : Nat) (hp : pc + 1 = pc') (l' : Array Slot) (hl : storeLocals Ls i.val (.int x) = some l') (k : Go p e below Q (T.setTop (mkF m pc' l' st))) : Go p e below Q (T.setTop (mkF m pc Ls ((.int x) :: st))) := by
  subst hp; exact Go.step (fun t k => XS.istoreN S.here C.1 rfl (C.hd hd) rfl hl k) k
theorem Cx.astore (C : Cx p s m meth c Z EL own bytes maxl ret nm) (S : St p l e R s m args below meth c Z EL h0 L0 T L M cells slots) {i : Nat} {x : Value} (hd : decode bytes pc = .ok (.astore i, 2)) (pc' : Nat) (hp : pc + 2 = pc') (hv : x.isRef = true) (l' : Array Slot) (hl : storeLocals Ls i x = some l') (k : Go p e below Q (T.setTop (mkF m pc' l' st))) : Go p e below Q (T.setTop (mkF m pc Ls (x :: st))) := by
  subst hp; exact Go.step (fun t k => XS.astore S.here C.1 rfl (C.hd hd) rfl hv hl k) k
theorem Cx.astoreN (C : Cx p s m meth c Z EL own bytes maxl ret nm) (S : St p l e R s m args below meth c Z EL h0 L0 T L M cells slots) {i : Fin 4} {x : Value} (hd : decode bytes pc = .ok (.astore_n i, 1)) (pc' : Nat) (hp : pc + 1 = pc') (hv : x.isRef = true) (l' : Array Slot) (hl : storeLocals Ls i.val x = some l') (k : Go p e below Q (T.setTop (mkF m pc' l' st))) : Go p e below Q (T.setTop (mkF m pc Ls (x :: st))) := by
  subst hp; exact Go.step (fun t k => XS.astoreN S.here C.1 rfl (C.hd hd) rfl hv hl k) k
theorem Cx.iconst (C : Cx p s m meth c Z EL own bytes maxl ret nm) (S : St p l e R s m args below meth c Z EL h0 L0 T L M cells slots) {i : Int} (hd : decode bytes pc = .ok (.iconst i, 1)) (pc' : Nat) (hp : pc + 1 = pc') (v : Int32) (hv : Int32.ofInt i = v) (k : Go p e below Q (T.setTop (mkF m pc' Ls (.int v :: st)))) : Go p e below Q (T.setTop (mkF m pc Ls st)) := by
  subst hp; exact Go.step (fun t k => XT.iconstV S.here C.1 rfl v (C.hd hd) hv k) k
theorem Cx.bipush (C : Cx p s m meth c Z EL own bytes maxl ret nm) (S : St p l e R s m args below meth c Z EL h0 L0 T L M cells slots) {i : Int} (hd : decode bytes pc = .ok (.bipush i, 2)) (pc' : Nat) (hp : pc + 2 = pc') (v : Int32) (hv : (Int8.ofInt i).toInt32 = v) (k : Go p e below Q (T.setTop (mkF m pc' Ls (.int v :: st)))) : Go p e below Q (T.setTop (mkF m pc Ls st)) := by
  subst hp; exact Go.step (fun t k => XT.bipushV S.here C.1 rfl v (C.hd hd) hv k) k
theorem Cx.sipush (C : Cx p s m meth c Z EL own bytes maxl ret nm) (S : St p l e R s m args below meth c Z EL h0 L0 T L M cells slots) {i : Int} (hd : decode bytes pc = .ok (.sipush i, 3)) (pc' : Nat) (hp : pc + 3 = pc') (v : Int32) (hv : (Int16.ofInt i).toInt32 = v) (k : Go p e below Q (T.setTop (mkF m pc' Ls (.int v :: st)))) : Go p e below Q (T.setTop (mkF m pc Ls st)) := by
  subst hp; exact Go.step (fun t k => XT.sipushV S.here C.1 rfl v (C.hd hd) hv k) k
theorem Cx.iinc (C : Cx p s m meth c Z EL own bytes maxl ret nm) (S : St p l e R s m args below meth c Z EL h0 L0 T L M cells slots) {i : Nat} {cst : Int} {x : Int32} (hd : decode bytes pc = .ok (.iinc i cst, 3)) (pc' : Nat) (hp : pc + 3 = pc') (hl0 : Ls[i]? = some (.val (.int x))) (y v : Int32) (hv : Int32.ofInt cst = v) (hy : x + v = y) (l' : Array Slot) (hl : storeLocals Ls i (.int y) = some l') (k : Go p e below Q (T.setTop (mkF m pc' l' st))) : Go p e below Q (T.setTop (mkF m pc Ls st)) := by
  subst hp; subst hy; exact Go.step (fun t k => XT.iincV S.here C.1 rfl v (C.hd hd) hv hl0 hl k) k
theorem Cx.aconstNull (C : Cx p s m meth c Z EL own bytes maxl ret nm) (S : St p l e R s m args below meth c Z EL h0 L0 T L M cells slots)  (hd : decode bytes pc = .ok (.aconst_null, 1)) (pc' : Nat) (hp : pc + 1 = pc')  (k : Go p e below Q (T.setTop (mkF m pc' Ls (.null :: st)))) : Go p e below Q (T.setTop (mkF m pc Ls st)) := by
  subst hp; exact Go.step (fun t k => XS.aconstNull S.here C.1 rfl (C.hd hd)  k) k
theorem Cx.iadd (C : Cx p s m meth c Z EL own bytes maxl ret nm) (S : St p l e R s m args below meth c Z EL h0 L0 T L M cells slots) {x y : Int32} (hd : decode bytes pc = .ok (.iadd, 1)) (pc' : Nat) (hp : pc + 1 = pc') (z : Int32) (hz : x + y = z) (k : Go p e below Q (T.setTop (mkF m pc' Ls (.int z :: st)))) : Go p e below Q (T.setTop (mkF m pc Ls (.int y :: .int x :: st))) := by
  subst hp; subst hz; exact Go.step (fun t k => XS.iadd S.here C.1 rfl (C.hd hd) rfl k) k
theorem Cx.isub (C : Cx p s m meth c Z EL own bytes maxl ret nm) (S : St p l e R s m args below meth c Z EL h0 L0 T L M cells slots) {x y : Int32} (hd : decode bytes pc = .ok (.isub, 1)) (pc' : Nat) (hp : pc + 1 = pc') (z : Int32) (hz : x - y = z) (k : Go p e below Q (T.setTop (mkF m pc' Ls (.int z :: st)))) : Go p e below Q (T.setTop (mkF m pc Ls (.int y :: .int x :: st))) := by
  subst hp; subst hz; exact Go.step (fun t k => XS.isub S.here C.1 rfl (C.hd hd) rfl k) k
theorem Cx.imul (C : Cx p s m meth c Z EL own bytes maxl ret nm) (S : St p l e R s m args below meth c Z EL h0 L0 T L M cells slots) {x y : Int32} (hd : decode bytes pc = .ok (.imul, 1)) (pc' : Nat) (hp : pc + 1 = pc') (z : Int32) (hz : x * y = z) (k : Go p e below Q (T.setTop (mkF m pc' Ls (.int z :: st)))) : Go p e below Q (T.setTop (mkF m pc Ls (.int y :: .int x :: st))) := by
  subst hp; subst hz; exact Go.step (fun t k => XS.imul S.here C.1 rfl (C.hd hd) rfl k) k
theorem Cx.iand (C : Cx p s m meth c Z EL own bytes maxl ret nm) (S : St p l e R s m args below meth c Z EL h0 L0 T L M cells slots) {x y : Int32} (hd : decode bytes pc = .ok (.iand, 1)) (pc' : Nat) (hp : pc + 1 = pc') (z : Int32) (hz : x &&& y = z) (k : Go p e below Q (T.setTop (mkF m pc' Ls (.int z :: st)))) : Go p e below Q (T.setTop (mkF m pc Ls (.int y :: .int x :: st))) := by
  subst hp; subst hz; exact Go.step (fun t k => XS.iand S.here C.1 rfl (C.hd hd) rfl k) k
theorem Cx.ior (C : Cx p s m meth c Z EL own bytes maxl ret nm) (S : St p l e R s m args below meth c Z EL h0 L0 T L M cells slots) {x y : Int32} (hd : decode bytes pc = .ok (.ior, 1)) (pc' : Nat) (hp : pc + 1 = pc') (z : Int32) (hz : x ||| y = z) (k : Go p e below Q (T.setTop (mkF m pc' Ls (.int z :: st)))) : Go p e below Q (T.setTop (mkF m pc Ls (.int y :: .int x :: st))) := by
  subst hp; subst hz; exact Go.step (fun t k => XT.ior S.here C.1 rfl (C.hd hd) rfl k) k
theorem Cx.ixor (C : Cx p s m meth c Z EL own bytes maxl ret nm) (S : St p l e R s m args below meth c Z EL h0 L0 T L M cells slots) {x y : Int32} (hd : decode bytes pc = .ok (.ixor, 1)) (pc' : Nat) (hp : pc + 1 = pc') (z : Int32) (hz : x ^^^ y = z) (k : Go p e below Q (T.setTop (mkF m pc' Ls (.int z :: st)))) : Go p e below Q (T.setTop (mkF m pc Ls (.int y :: .int x :: st))) := by
  subst hp; subst hz; exact Go.step (fun t k => XT.ixor S.here C.1 rfl (C.hd hd) rfl k) k
theorem Cx.ishl (C : Cx p s m meth c Z EL own bytes maxl ret nm) (S : St p l e R s m args below meth c Z EL h0 L0 T L M cells slots) {x y : Int32} (hd : decode bytes pc = .ok (.ishl, 1)) (pc' : Nat) (hp : pc + 1 = pc') (z : Int32) (hz : x <<< (y &&& 31) = z) (k : Go p e below Q (T.setTop (mkF m pc' Ls (.int z :: st)))) : Go p e below Q (T.setTop (mkF m pc Ls (.int y :: .int x :: st))) := by
  subst hp; subst hz; exact Go.step (fun t k => XT.ishl S.here C.1 rfl (C.hd hd) rfl k) k
theorem Cx.ishr (C : Cx p s m meth c Z EL own bytes maxl ret nm) (S : St p l e R s m args below meth c Z EL h0 L0 T L M cells slots) {x y : Int32} (hd : decode bytes pc = .ok (.ishr, 1)) (pc' : Nat) (hp : pc + 1 = pc') (z : Int32) (hz : x >>> (y &&& 31) = z) (k : Go p e below Q (T.setTop (mkF m pc' Ls (.int z :: st)))) : Go p e below Q (T.setTop (mkF m pc Ls (.int y :: .int x :: st))) := by
  subst hp; subst hz; exact Go.step (fun t k => XT.ishr S.here C.1 rfl (C.hd hd) rfl k) k
theorem Cx.iushr (C : Cx p s m meth c Z EL own bytes maxl ret nm) (S : St p l e R s m args below meth c Z EL h0 L0 T L M cells slots) {x y : Int32} (hd : decode bytes pc = .ok (.iushr, 1)) (pc' : Nat) (hp : pc + 1 = pc') (z : Int32) (hz : XT.ushr x y = z) (k : Go p e below Q (T.setTop (mkF m pc' Ls (.int z :: st)))) : Go p e below Q (T.setTop (mkF m pc Ls (.int y :: .int x :: st))) := by
  subst hp; subst hz; exact Go.step (fun t k => XT.iushr S.here C.1 rfl (C.hd hd) rfl k) k
theorem Cx.irem (C : Cx p s m meth c Z EL own bytes maxl ret nm) (S : St p l e R s m args below meth c Z EL h0 L0 T L M cells slots) {x y : Int32} (hd : decode bytes pc = .ok (.irem, 1)) (pc' : Nat) (hp : pc + 1 = pc') (hy : y ≠ 0) (z : Int32) (hz : x % y = z) (k : Go p e below Q (T.setTop (mkF m pc' Ls (.int z :: st)))) : Go p e below Q (T.setTop (mkF m pc Ls (.int y :: .int x :: st))) := by
  subst hp; subst hz; obtain ⟨_, _, X, -⟩ := S.opn C; exact Go.step (fun t k => iremM X C.1 rfl (C.hd hd) rfl hy k) k
theorem Cx.i2b (C : Cx p s m meth c Z EL own bytes maxl ret nm) (S : St p l e R s m args below meth c Z EL h0 L0 T L M cells slots) {x : Int32} (hd : decode bytes pc = .ok (.i2b, 1)) (pc' : Nat) (hp : pc + 1 = pc') (z : Int32) (hz : x.toInt8.toInt32 = z) (k : Go p e below Q (T.setTop (mkF m pc' Ls (.int z :: st)))) : Go p e below Q (T.setTop (mkF m pc Ls (.int x :: st))) := by
  subst hp; subst hz; exact Go.step (fun t k => XT.i2b S.here C.1 rfl (C.hd hd) rfl k) k
theorem Cx.i2c (C : Cx p s m meth c Z EL own bytes maxl ret nm) (S : St p l e R s m args below meth c Z EL h0 L0 T L M cells slots) {x : Int32} (hd : decode bytes pc = .ok (.i2c, 1)) (pc' : Nat) (hp : pc + 1 = pc') (z : Int32) (hz : x.toUInt32.toUInt16.toUInt32.toInt32 = z) (k : Go p e below Q (T.setTop (mkF m pc' Ls (.int z :: st)))) : Go p e below Q (T.setTop (mkF m pc Ls (.int x :: st))) := by
  subst hp; subst hz; exact Go.step (fun t k => XT.i2c S.here C.1 rfl (C.hd hd) rfl k) k
theorem Cx.dup (C : Cx p s m meth c Z EL own bytes maxl ret nm) (S : St p l e R s m args below meth c Z EL h0 L0 T L M cells slots) {x : Value} (hd : decode bytes pc = .ok (.dup, 1)) (pc' : Nat) (hp : pc + 1 = pc') (hc : x.category = 1) (k : Go p e below Q (T.setTop (mkF m pc' Ls (x :: x :: st)))) : Go p e below Q (T.setTop (mkF m pc Ls (x :: st))) := by
  subst hp; exact Go.step (fun t k => XS.dup S.here C.1 rfl (C.hd hd) rfl hc k) k
theorem Cx.pop (C : Cx p s m meth c Z EL own bytes maxl ret nm) (S : St p l e R s m args below meth c Z EL h0 L0 T L M cells slots) {x : Value} (hd : decode bytes pc = .ok (.pop, 1)) (pc' : Nat) (hp : pc + 1 = pc') (hc : x.category = 1) (k : Go p e below Q (T.setTop (mkF m pc' Ls st))) : Go p e below Q (T.setTop (mkF m pc Ls (x :: st))) := by
  subst hp; exact Go.step (fun t k => XT.pop S.here C.1 rfl (C.hd hd) rfl hc k) k
theorem Cx.dupX1 (C : Cx p s m meth c Z EL own bytes maxl ret nm) (S : St p l e R s m args below meth c Z EL h0 L0 T L M cells slots) {x y : Value} (hd : decode bytes pc = .ok (.dup_x1, 1)) (pc' : Nat) (hp : pc + 1 = pc') (hc : x.category = 1) (hc' : y.category = 1) (k : Go p e below Q (T.setTop (mkF m pc' Ls (x :: y :: x :: st)))) : Go p e below Q (T.setTop (mkF m pc Ls (x :: y :: st))) := by
  subst hp; exact Go.step (fun t k => XT.dupX1 S.here C.1 rfl (C.hd hd) rfl hc hc' k) k
theorem Cx.goto (C : Cx p s m meth c Z EL own bytes maxl ret nm) (S : St p l e R s m args below meth c Z EL h0 L0 T L M cells slots) {o : Int} (hd : decode bytes pc = .ok (.goto o, 3)) (pc' : Nat) (h1 : 0 ≤ (pc : Int) + o) (hp : ((pc : Int) + o).toNat = pc') (k : Go p e below Q (T.setTop (mkF m pc' Ls st))) : Go p e below Q (T.setTop (mkF m pc Ls st)) := by
  exact Go.step (fun t k => XS.goto S.here C.1 rfl (pc0 := pc) (pc' := pc') rfl (C.hd hd) h1 hp k) k
theorem Cx.if_eq (C : Cx p s m meth c Z EL own bytes maxl ret nm) (S : St p l e R s m args below meth c Z EL h0 L0 T L M cells slots) {x : Int32} {o : Int} (hd : decode bytes pc = .ok (.ifCond .eq o, 3)) (pt pf : Nat) (h1 : 0 ≤ (pc : Int) + o) (ht : ((pc : Int) + o).toNat = pt) (hf : pc + 3 = pf) (kt : x = 0 → Go p e below Q (T.setTop (mkF m pt Ls st))) (kf : ¬ x = 0 → Go p e below Q (T.setTop (mkF m pf Ls st))) : Go p e below Q (T.setTop (mkF m pc Ls (.int x :: st))) := by
  subst hf
  by_cases q : x = 0
  · exact Go.step (fun t k => XS.ifYes S.here C.1 rfl (pc0 := pc) (pc' := pt) rfl (C.hd hd) rfl (XT.i0_eq_t q) h1 ht k) (kt q)
  · exact Go.step (fun t k => XS.ifNo S.here C.1 rfl (C.hd hd) rfl (XT.i0_eq_f q) k) (kf q)
theorem Cx.icmp_eq (C : Cx p s m meth c Z EL own bytes maxl ret nm) (S : St p l e R s m args below meth c Z EL h0 L0 T L M cells slots) {x y : Int32} {o : Int} (hd : decode bytes pc = .ok (.if_icmp .eq o, 3)) (pt pf : Nat) (h1 : 0 ≤ (pc : Int) + o) (ht : ((pc : Int) + o).toNat = pt) (hf : pc + 3 = pf) (kt : x = y → Go p e below Q (T.setTop (mkF m pt Ls st))) (kf : ¬ x = y → Go p e below Q (T.setTop (mkF m pf Ls st))) : Go p e below Q (T.setTop (mkF m pc Ls (.int y :: .int x :: st))) := by
  subst hf
  by_cases q : x = y
  · exact Go.step (fun t k => XS.icmpYes S.here C.1 rfl (pc0 := pc) (pc' := pt) rfl (C.hd hd) rfl (XT.ii_eq_t q) h1 ht k) (kt q)
  · exact Go.step (fun t k => XS.icmpNo S.here C.1 rfl (C.hd hd) rfl (XT.ii_eq_f q) k) (kf q)
theorem Cx.if_ne (C : Cx p s m meth c Z EL own bytes maxl ret nm) (S : St p l e R s m args below meth c Z EL h0 L0 T L M cells slots) {x : Int32} {o : Int} (hd : decode bytes pc = .ok (.ifCond .ne o, 3)) (pt pf : Nat) (h1 : 0 ≤ (pc : Int) + o) (ht : ((pc : Int) + o).toNat = pt) (hf : pc + 3 = pf) (kt : ¬ x = 0 → Go p e below Q (T.setTop (mkF m pt Ls st))) (kf : x = 0 → Go p e below Q (T.setTop (mkF m pf Ls st))) : Go p e below Q (T.setTop (mkF m pc Ls (.int x :: st))) := by
  subst hf
  by_cases q : x = 0
  · exact Go.step (fun t k => XS.ifNo S.here C.1 rfl (C.hd hd) rfl (XT.i0_ne_f q) k) (kf q)
  · exact Go.step (fun t k => XS.ifYes S.here C.1 rfl (pc0 := pc) (pc' := pt) rfl (C.hd hd) rfl (XT.i0_ne_t q) h1 ht k) (kt q)
theorem Cx.icmp_ne (C : Cx p s m meth c Z EL own bytes maxl ret nm) (S : St p l e R s m args below meth c Z EL h0 L0 T L M cells slots) {x y : Int32} {o : Int} (hd : decode bytes pc = .ok (.if_icmp .ne o, 3)) (pt pf : Nat) (h1 : 0 ≤ (pc : Int) + o) (ht : ((pc : Int) + o).toNat = pt) (hf : pc + 3 = pf) (kt : ¬ x = y → Go p e below Q (T.setTop (mkF m pt Ls st))) (kf : x = y → Go p e below Q (T.setTop (mkF m pf Ls st))) : Go p e below Q (T.setTop (mkF m pc Ls (.int y :: .int x :: st))) := by
  subst hf
  by_cases q : x = y
  · exact Go.step (fun t k => XS.icmpNo S.here C.1 rfl (C.hd hd) rfl (XT.ii_ne_f q) k) (kf q)
  · exact Go.step (fun t k => XS.icmpYes S.here C.1 rfl (pc0 := pc) (pc' := pt) rfl (C.hd hd) rfl (XT.ii_ne_t q) h1 ht k) (kt q)
theorem Cx.if_lt (C : Cx p s m meth c Z EL own bytes maxl ret nm) (S : St p l e R s m args below meth c Z EL h0 L0 T L M cells slots) {x : Int32} {o : Int} (hd : decode bytes pc = .ok (.ifCond .lt o, 3)) (pt pf : Nat) (h1 : 0 ≤ (pc : Int) + o) (ht : ((pc : Int) + o).toNat = pt) (hf : pc + 3 = pf) (kt : x < 0 → Go p e below Q (T.setTop (mkF m pt Ls st))) (kf : ¬ x < 0 → Go p e below Q (T.setTop (mkF m pf Ls st))) : Go p e below Q (T.setTop (mkF m pc Ls (.int x :: st))) := by
  subst hf
  by_cases q : x < 0
  · exact Go.step (fun t k => XS.ifYes S.here C.1 rfl (pc0 := pc) (pc' := pt) rfl (C.hd hd) rfl (XT.i0_lt_t q) h1 ht k) (kt q)
  · exact Go.step (fun t k => XS.ifNo S.here C.1 rfl (C.hd hd) rfl (XT.i0_lt_f q) k) (kf q)
theorem Cx.icmp_lt (C : Cx p s m meth c Z EL own bytes maxl ret nm) (S : St p l e R s m args below meth c Z EL h0 L0 T L M cells slots) {x y : Int32} {o : Int} (hd : decode bytes pc = .ok (.if_icmp .lt o, 3)) (pt pf : Nat) (h1 : 0 ≤ (pc : Int) + o) (ht : ((pc : Int) + o).toNat = pt) (hf : pc + 3 = pf) (kt : x < y → Go p e below Q (T.setTop (mkF m pt Ls st))) (kf : ¬ x < y → Go p e below Q (T.setTop (mkF m pf Ls st))) : Go p e below Q (T.setTop (mkF m pc Ls (.int y :: .int x :: st))) := by
  subst hf
  by_cases q : x < y
  · exact Go.step (fun t k => XS.icmpYes S.here C.1 rfl (pc0 := pc) (pc' := pt) rfl (C.hd hd) rfl (XT.ii_lt_t q) h1 ht k) (kt q)
  · exact Go.step (fun t k => XS.icmpNo S.here C.1 rfl (C.hd hd) rfl (XT.ii_lt_f q) k) (kf q)
theorem Cx.if_ge (C : Cx p s m meth c Z EL own bytes maxl ret nm) (S : St p l e R s m args below meth c Z EL h0 L0 T L M cells slots) {x : Int32} {o : Int} (hd : decode bytes pc = .ok (.ifCond .ge o, 3)) (pt pf : Nat) (h1 : 0 ≤ (pc : Int) + o) (ht : ((pc : Int) + o).toNat = pt) (hf : pc + 3 = pf) (kt : ¬ x < 0 → Go p e below Q (T.setTop (mkF m pt Ls st))) (kf : x < 0 → Go p e below Q (T.setTop (mkF m pf Ls st))) : Go p e below Q (T.setTop (mkF m pc Ls (.int x :: st))) := by
  subst hf
  by_cases q : x < 0
  · exact Go.step (fun t k => XS.ifNo S.here C.1 rfl (C.hd hd) rfl (XT.i0_ge_f q) k) (kf q)
  · exact Go.step (fun t k => XS.ifYes S.here C.1 rfl (pc0 := pc) (pc' := pt) rfl (C.hd hd) rfl (XT.i0_ge_t q) h1 ht k) (kt q)
theorem Cx.icmp_ge (C : Cx p s m meth c Z EL own bytes maxl ret nm) (S : St p l e R s m args below meth c Z EL h0 L0 T L M cells slots) {x y : Int32} {o : Int} (hd : decode bytes pc = .ok (.if_icmp .ge o, 3)) (pt pf : Nat) (h1 : 0 ≤ (pc : Int) + o) (ht : ((pc : Int) + o).toNat = pt) (hf : pc + 3 = pf) (kt : ¬ x < y → Go p e below Q (T.setTop (mkF m pt Ls st))) (kf : x < y → Go p e below Q (T.setTop (mkF m pf Ls st))) : Go p e below Q (T.setTop (mkF m pc Ls (.int y :: .int x :: st))) := by
  subst hf
  by_cases q : x < y
  · exact Go.step (fun t k => XS.icmpNo S.here C.1 rfl (C.hd hd) rfl (XT.ii_ge_f q) k) (kf q)
  · exact Go.step (fun t k => XS.icmpYes S.here C.1 rfl (pc0 := pc) (pc' := pt) rfl (C.hd hd) rfl (XT.ii_ge_t q) h1 ht k) (kt q)
theorem Cx.icmp_gt (C : Cx p s m meth c Z EL own bytes maxl ret nm) (S : St p l e R s m args below meth c Z EL h0 L0 T L M cells slots) {x y : Int32} {o : Int} (hd : decode bytes pc = .ok (.if_icmp .gt o, 3)) (pt pf : Nat) (h1 : 0 ≤ (pc : Int) + o) (ht : ((pc : Int) + o).toNat = pt) (hf : pc + 3 = pf) (kt : y < x → Go p e below Q (T.setTop (mkF m pt Ls st))) (kf : ¬ y < x → Go p e below Q (T.setTop (mkF m pf Ls st))) : Go p e below Q (T.setTop (mkF m pc Ls (.int y :: .int x :: st))) := by
  subst hf
  by_cases q : y < x
  · exact Go.step (fun t k => XS.icmpYes S.here C.1 rfl (pc0 := pc) (pc' := pt) rfl (C.hd hd) rfl (XT.ii_gt_t q) h1 ht k) (kt q)
  · exact Go.step (fun t k => XS.icmpNo S.here C.1 rfl (C.hd hd) rfl (XT.ii_gt_f q) k) (kf q)
theorem Cx.icmp_le (C : Cx p s m meth c Z EL own bytes maxl ret nm) (S : St p l e R s m args below meth c Z EL h0 L0 T L M cells slots) {x y : Int32} {o : Int} (hd : decode bytes pc = .ok (.if_icmp .le o, 3)) (pt pf : Nat) (h1 : 0 ≤ (pc : Int) + o) (ht : ((pc : Int) + o).toNat = pt) (hf : pc + 3 = pf) (kt : ¬ y < x → Go p e below Q (T.setTop (mkF m pt Ls st))) (kf : y < x → Go p e below Q (T.setTop (mkF m pf Ls st))) : Go p e below Q (T.setTop (mkF m pc Ls (.int y :: .int x :: st))) := by
  subst hf
  by_cases q : y < x
  · exact Go.step (fun t k => XS.icmpNo S.here C.1 rfl (C.hd hd) rfl (XT.ii_le_f q) k) (kf q)
  · exact Go.step (fun t k => XS.icmpYes S.here C.1 rfl (pc0 := pc) (pc' := pt) rfl (C.hd hd) rfl (XT.ii_le_t q) h1 ht k) (kt q)
theorem Cx.ifnonnullNo (C : Cx p s m meth c Z EL own bytes maxl ret nm) (S : St p l e R s m args below meth c Z EL h0 L0 T L M cells slots) {o : Int} (hd : decode bytes pc = .ok (.ifnonnull o, 3)) (pc' : Nat) (hp : pc + 3 = pc')  (k : Go p e below Q (T.setTop (mkF m pc' Ls st))) : Go p e below Q (T.setTop (mkF m pc Ls (.null :: st))) := by
  subst hp; exact Go.step (fun t k => XT.ifnonnullNo S.here C.1 rfl (C.hd hd) rfl k) k
theorem Cx.getfield (C : Cx p s m meth c Z EL own bytes maxl ret nm) (S : St p l e R s m args below meth c Z EL h0 L0 T L M cells slots) {idx : Nat} {R0 O n d host : String} {a : Addr} {v : Value} (w : (Jvm.Cond.fieldLink own idx R0 n d).before a0 Z = true ∨ (Jvm.Cond.fieldLinkNest own idx R0 n d host).before a0 Z = true) (via : Via Z R0 O n d) (hd : decode bytes pc = .ok (.getfield idx, 3)) (F : Fld Z T.heap a O n d v) (pc' : Nat) (hp : pc + 3 = pc')
    (k : ∀ T', St p l e R s m args below meth c Z EL h0 L0 T' L M cells slots → Go p e below Q (T'.setTop (mkF m pc' Ls (v :: st)))) : Go p e below Q (T.setTop (mkF m pc Ls (.ref a :: st))) := by
  subst hp
  obtain ⟨s', locs, X, hZ, hown, ksame, kext, kwr⟩ := S.opn C
  obtain ⟨T', X', e', stp⟩ := getF X C.1 hZ hown w via rfl F (g := mkF m pc Ls (.ref a :: st)) rfl rfl (C.hd hd)
  exact Go.step stp (k T' (ksame T' X' e'))
theorem Cx.getstatic (C : Cx p s m meth c Z EL own bytes maxl ret nm) (S : St p l e R s m args below meth c Z EL h0 L0 T L M cells slots) {idx : Nat} {R0 O n d host : String} {v : Value} (w : (Jvm.Cond.fieldLink own idx R0 n d).before a0 Z = true ∨ (Jvm.Cond.fieldLinkNest own idx R0 n d host).before a0 Z = true) (via : Via Z R0 O n d) (hd : decode bytes pc = .ok (.getstatic idx, 3)) (F : Sta Z Z.heap O n d v) (pc' : Nat) (hp : pc + 3 = pc')
    (k : ∀ T', St p l e R s m args below meth c Z EL h0 L0 T' L M cells slots → Go p e below Q (T'.setTop (mkF m pc' Ls (v :: st)))) : Go p e below Q (T.setTop (mkF m pc Ls st)) := by
  subst hp
  have F' := S.oldS F
  obtain ⟨s', locs, X, hZ, hown, ksame, kext, kwr⟩ := S.opn C
  obtain ⟨T', X', e', stp⟩ := getS2 X C.1 hZ hown w via rfl F' (g := mkF m pc Ls st) rfl (C.hd hd)
  exact Go.step stp (k T' (ksame T' X' e'))
theorem Cx.putfield (C : Cx p s m meth c Z EL own bytes maxl ret nm) (S : St p l e R s m args below meth c Z EL h0 L0 T L M cells slots) {idx : Nat} {R0 O n d host K : String} {kk : Nat} {a : Addr} {v old : Value} {fs : List FV} {ty : FieldType} (w : (Jvm.Cond.fieldLink own idx R0 n d).before a0 Z = true ∨ (Jvm.Cond.fieldLinkNest own idx R0 n d host).before a0 Z = true) (via : Via Z R0 O n d) (hd : decode bytes pc = .ok (.putfield idx, 3)) (i : Nat) (hi : nth L i = some (a, Obj Z K fs)) (j : Nat) (hj : nth fs j = some (O, n, d, old))
    (lw : (Jvm.Cond.lays K O n d).before a0 Z = true ∨ ((Jvm.Cond.laysFinal K O n d).before a0 Z = true ∧ own = O ∧ nm = "<init>")) (wi : (Jvm.Cond.instantiable K kk).before a0 Z = true) (hty : parseFieldDescriptor d = some ty) (hn : narrow ty v = v) (hf : fits ty v = true) (pc' : Nat) (hp : pc + 3 = pc')
    (k : ∀ T', St p l e R s m args below meth c Z EL h0 L0 T' (upd L i (a, Obj Z K (upd fs j (O, n, d, v)))) M cells slots → Go p e below Q (T'.setTop (mkF m pc' Ls st))) : Go p e below Q (T.setTop (mkF m pc Ls (v :: .ref a :: st))) := by
  subst hp
  have F := S.fld i hi j hj
  have E := S.exa i hi
  obtain ⟨s', locs, X, hZ, hown, ksame, kext, kwr⟩ := S.opn C
  have lw' : (Jvm.Cond.lays K O n d).before a0 Z = true ∨ ((Jvm.Cond.laysFinal K O n d).before a0 Z = true ∧ own = O ∧ meth.name = "<init>") := lw.imp id fun q => ⟨q.1, q.2.1, C.2.2.2.2.2.2.2.1.trans q.2.2⟩
  obtain ⟨T', h', X', e', W, stp⟩ := putF X C.1 hZ hown w via rfl F E lw' wi hty hn hf (g := mkF m pc Ls (v :: .ref a :: st)) rfl rfl (C.hd hd)
  exact Go.step stp (k T' (kwr T' h' i a _ _ _ _ hi X' e' W fun c _ P hs => P.put hj hs))
theorem Cx.putfieldN (C : Cx p s m meth c Z EL own bytes maxl ret nm) (S : St p l e R s m args below meth c Z EL h0 L0 T L M cells slots) {idx : Nat} {R0 O n d K : String} {kk : Nat} {a : Addr} {v v' old : Value} {fs : List FV} {ty : FieldType} (w : (Jvm.Cond.fieldLink own idx R0 n d).before a0 Z = true) (via : Via Z R0 O n d) (hd : decode bytes pc = .ok (.putfield idx, 3)) (i : Nat) (hi : nth L i = some (a, Obj Z K fs)) (j : Nat) (hj : nth fs j = some (O, n, d, old))
    (lw : (Jvm.Cond.lays K O n d).before a0 Z = true ∨ ((Jvm.Cond.laysFinal K O n d).before a0 Z = true ∧ own = O ∧ nm = "<init>")) (wi : (Jvm.Cond.instantiable K kk).before a0 Z = true) (hty : parseFieldDescriptor d = some ty) (hn : narrow ty v = v') (hf : fits ty v' = true) (pc' : Nat) (hp : pc + 3 = pc')
    (k : ∀ T', St p l e R s m args below meth c Z EL h0 L0 T' (upd L i (a, Obj Z K (upd fs j (O, n, d, v')))) M cells slots → Go p e below Q (T'.setTop (mkF m pc' Ls st))) : Go p e below Q (T.setTop (mkF m pc Ls (v :: .ref a :: st))) := by
  subst hp
  have F := S.fld i hi j hj
  have E := S.exa i hi
  obtain ⟨s', locs, X, hZ, hown, ksame, kext, kwr⟩ := S.opn C
  have lw' : (Jvm.Cond.lays K O n d).before a0 Z = true ∨ ((Jvm.Cond.laysFinal K O n d).before a0 Z = true ∧ own = O ∧ meth.name = "<init>") := lw.imp id fun q => ⟨q.1, q.2.1, C.2.2.2.2.2.2.2.1.trans q.2.2⟩
  obtain ⟨T', h', X', e', W, stp⟩ := putFN X C.1 hZ hown w via rfl F E lw' wi hty hn hf (g := mkF m pc Ls (v :: .ref a :: st)) rfl rfl (C.hd hd)
  exact Go.step stp (k T' (kwr T' h' i a _ _ _ _ hi X' e' W fun c _ P hs => P.put hj hs))
theorem Cx.new (C : Cx p s m meth c Z EL own bytes maxl ret nm) (S : St p l e R s m args below meth c Z EL h0 L0 T L M cells slots) {idx : Nat} {K : String} {kk : Nat} (w : (Jvm.Cond.classLink own idx K).before a0 Z = true) (wi : (Jvm.Cond.instantiable K kk).before a0 Z = true) (wz : (Jvm.Cond.initialized K).before a0 Z = true) (hd : decode bytes pc = .ok (.new idx, 3)) {fs : List FT} (hl : LaidAll Z a0 K fs) (hnd : (fs.map (·.2.1)).Nodup) (pc' : Nat) (hp : pc + 3 = pc')
    (hc : cells + 1 ≤ R.cells) (hs : slots + kk ≤ R.slots) (k : ∀ T' b, St p l e R s m args below meth c Z EL h0 L0 T' (L ++ [(b, Obj Z K (fresh fs))]) M (cells + 1) (slots + kk) → Go p e below Q (T'.setTop (mkF m pc' Ls (.ref b :: st)))) : Go p e below Q (T.setTop (mkF m pc Ls st)) := by
  subst hp
  obtain ⟨s', locs, X, hZ, hown, ksame, kext, kwr⟩ := S.opn C
  obtain ⟨T', h', X', e', E, A, D, ⟨cell, v1, v2, -⟩, stp⟩ := newO X C.1 hZ hown w wi wz rfl (g := mkF m pc Ls st) rfl (C.hd hd) hc hs
  exact Go.step stp (k T' T.heap.size (kext T' h' _ _ _ X' e' E (obj_new hl hnd A ⟨cell, v1, v2⟩ D)))
theorem Cx.newarray (C : Cx p s m meth c Z EL own bytes maxl ret nm) (S : St p l e R s m args below meth c Z EL h0 L0 T L M cells slots) {aty : ArrayType} {n : Int32} (w : (Jvm.Cond.arrayClass (newarray.typeOf aty)).before a0 Z = true) (hd : decode bytes pc = .ok (.newarray aty, 2)) (pc' : Nat) (hp : pc + 2 = pc') (hn : ¬ n < 0) (N : Nat) (hN : n.toNatClampNeg = N) (cap : Nat) (hcap : N ≤ cap) (hb : cap * 8 ≤ 536870912)
    (hc : cells + 1 ≤ R.cells) (hs : slots + cap ≤ R.slots) (k : ∀ T' b, St p l e R s m args below meth c Z EL h0 L0 T' (L ++ [(b, Ary Z (newarray.typeOf aty) (List.replicate N (defaultValue (newarray.typeOf aty))))]) M (cells + 1) (slots + cap) → Go p e below Q (T'.setTop (mkF m pc' Ls (.ref b :: st)))) : Go p e below Q (T.setTop (mkF m pc Ls (.int n :: st))) := by
  subst hp hN
  obtain ⟨s', locs, X, hZ, hown, ksame, kext, kwr⟩ := S.opn C
  obtain ⟨T', h', cA, X', e', E, A, stp⟩ := newP X C.1 hZ w rfl (g := mkF m pc Ls (.int n :: st)) rfl (C.hd hd) rfl hn hcap hb hc hs
  exact Go.step stp (k T' T.heap.size (kext T' h' _ _ _ X' e' E ⟨_, A.1, ary_new A⟩))
theorem Cx.anewarray (C : Cx p s m meth c Z EL own bytes maxl ret nm) (S : St p l e R s m args below meth c Z EL h0 L0 T L M cells slots) {idx : Nat} {K : String} {n : Int32} (w1 : (Jvm.Cond.classLink own idx K).before a0 Z = true) (w2 : (Jvm.Cond.arrayOver (.object K)).before a0 Z = true) (hd : decode bytes pc = .ok (.anewarray idx, 3)) (pc' : Nat) (hp : pc + 3 = pc') (hn : ¬ n < 0) (N : Nat) (hN : n.toNatClampNeg = N) (cap : Nat) (hcap : N ≤ cap) (hb : cap * 8 ≤ 536870912)
    (hc : cells + 1 ≤ R.cells) (hs : slots + cap ≤ R.slots) (k : ∀ T' b, St p l e R s m args below meth c Z EL h0 L0 T' (L ++ [(b, AryR Z K (List.replicate N .null))]) M (cells + 1) (slots + cap) → Go p e below Q (T'.setTop (mkF m pc' Ls (.ref b :: st)))) : Go p e below Q (T.setTop (mkF m pc Ls (.int n :: st))) := by
  subst hp hN
  obtain ⟨s', locs, X, hZ, hown, ksame, kext, kwr⟩ := S.opn C
  obtain ⟨T', h', cA, X', e', E, A, V, stp⟩ := newR X C.1 hZ hown w1 w2 rfl (g := mkF m pc Ls (.int n :: st)) rfl (C.hd hd) rfl hn hcap hb hc hs
  exact Go.step stp (k T' T.heap.size (kext T' h' _ _ _ X' e' E ⟨_, A.1, ary_new A, V⟩))
theorem Cx.arraylength (C : Cx p s m meth c Z EL own bytes maxl ret nm) (S : St p l e R s m args below meth c Z EL h0 L0 T L M cells slots) {a : Addr} {ty : FieldType} {vs : List Value} (A : ∃ cl, T.heap[a]? = some cl ∧ Ary Z ty vs cl) (hd : decode bytes pc = .ok (.arraylength, 1)) (pc' : Nat) (hp : pc + 1 = pc') (n : Int32) (hn : vs.length.toInt32 = n)
    (k : Go p e below Q (T.setTop (mkF m pc' Ls (.int n :: st)))) : Go p e below Q (T.setTop (mkF m pc Ls (.ref a :: st))) := by
  subst hp hn
  obtain ⟨s', locs, X, hZ, hown, ksame, kext, kwr⟩ := S.opn C
  obtain ⟨cl, h1, A⟩ := A
  rw [← A.size] at k
  exact Go.step (X.arraylength C.1 h1 (State.isArrayOf_alike hZ.alike A.1.1) (g := mkF m pc Ls (.ref a :: st)) rfl rfl (C.hd hd)) k

theorem Cx.iaload (C : Cx p s m meth c Z EL own bytes maxl ret nm) (S : St p l e R s m args below meth c Z EL h0 L0 T L M cells slots) {a : Addr} {vs : List Value} {x : Int32} {v : Value} (A : ∃ cl, T.heap[a]? = some cl ∧ Ary Z .int vs cl) (hd : decode bytes pc = .ok (.iaload, 1)) (pc' : Nat) (hp : pc + 1 = pc') (hx : ¬ x < 0) (j : Nat) (hj : x.toNatClampNeg = j) (hv : nth vs j = some v) (k : Go p e below Q (T.setTop (mkF m pc' Ls (v :: st)))) : Go p e below Q (T.setTop (mkF m pc Ls (.int x :: .ref a :: st))) := by
  subst hp
  obtain ⟨s', locs, X, hZ, hown, ksame, kext, kwr⟩ := S.opn C
  obtain ⟨cl, h1, A⟩ := A
  exact Go.step (X.iaload C.1 h1 (State.isArrayOf_alike hZ.alike A.1.1) A.1.2 (in_of A.size hx hj (nth_lt hv)) (by rw [hj]; exact A.get hv) (g := mkF m pc Ls (.int x :: .ref a :: st)) rfl rfl (C.hd hd)) k
theorem Cx.caload (C : Cx p s m meth c Z EL own bytes maxl ret nm) (S : St p l e R s m args below meth c Z EL h0 L0 T L M cells slots) {a : Addr} {vs : List Value} {x : Int32} {v : Value} (A : ∃ cl, T.heap[a]? = some cl ∧ Ary Z .char vs cl) (hd : decode bytes pc = .ok (.caload, 1)) (pc' : Nat) (hp : pc + 1 = pc') (hx : ¬ x < 0) (j : Nat) (hj : x.toNatClampNeg = j) (hv : nth vs j = some v) (k : Go p e below Q (T.setTop (mkF m pc' Ls (v :: st)))) : Go p e below Q (T.setTop (mkF m pc Ls (.int x :: .ref a :: st))) := by
  subst hp
  obtain ⟨s', locs, X, hZ, hown, ksame, kext, kwr⟩ := S.opn C
  obtain ⟨cl, h1, A⟩ := A
  exact Go.step (X.caload C.1 h1 (State.isArrayOf_alike hZ.alike A.1.1) A.1.2 (in_of A.size hx hj (nth_lt hv)) (by rw [hj]; exact A.get hv) (g := mkF m pc Ls (.int x :: .ref a :: st)) rfl rfl (C.hd hd)) k
theorem Cx.baload (C : Cx p s m meth c Z EL own bytes maxl ret nm) (S : St p l e R s m args below meth c Z EL h0 L0 T L M cells slots) {a : Addr} {vs : List Value} {x : Int32} {v : Value} (A : ∃ cl, T.heap[a]? = some cl ∧ Ary Z .byte vs cl) (hd : decode bytes pc = .ok (.baload, 1)) (pc' : Nat) (hp : pc + 1 = pc') (hx : ¬ x < 0) (j : Nat) (hj : x.toNatClampNeg = j) (hv : nth vs j = some v) (k : Go p e below Q (T.setTop (mkF m pc' Ls (v :: st)))) : Go p e below Q (T.setTop (mkF m pc Ls (.int x :: .ref a :: st))) := by
  subst hp
  obtain ⟨s', locs, X, hZ, hown, ksame, kext, kwr⟩ := S.opn C
  obtain ⟨cl, h1, A⟩ := A
  exact Go.step (X.baloadBytes C.1 h1 (State.isArrayOf_alike hZ.alike A.1.1) A.1.2 (in_of A.size hx hj (nth_lt hv)) (by rw [hj]; exact A.get hv) (g := mkF m pc Ls (.int x :: .ref a :: st)) rfl rfl (C.hd hd)) k
theorem Cx.aaload (C : Cx p s m meth c Z EL own bytes maxl ret nm) (S : St p l e R s m args below meth c Z EL h0 L0 T L M cells slots) {a : Addr} {ty : FieldType} {vs : List Value} {x : Int32} {v : Value} (A : ∃ cl, T.heap[a]? = some cl ∧ Ary Z ty vs cl) (ht : ty.isReference = true) (hd : decode bytes pc = .ok (.aaload, 1)) (pc' : Nat) (hp : pc + 1 = pc') (hx : ¬ x < 0) (j : Nat) (hj : x.toNatClampNeg = j) (hv : nth vs j = some v) (k : Go p e below Q (T.setTop (mkF m pc' Ls (v :: st)))) : Go p e below Q (T.setTop (mkF m pc Ls (.int x :: .ref a :: st))) := by
  subst hp
  obtain ⟨s', locs, X, hZ, hown, ksame, kext, kwr⟩ := S.opn C
  obtain ⟨cl, h1, A⟩ := A
  exact Go.step (X.aaload C.1 h1 (State.isArrayOf_alike hZ.alike A.1.1) ht A.1.2 (in_of A.size hx hj (nth_lt hv)) (by rw [hj]; exact A.get hv) (g := mkF m pc Ls (.int x :: .ref a :: st)) rfl rfl (C.hd hd)) k
theorem Cx.iastore (C : Cx p s m meth c Z EL own bytes maxl ret nm) (S : St p l e R s m args below meth c Z EL h0 L0 T L M cells slots) {a : Addr} {vs : List Value} {y : Int32} {x : Int32} (i : Nat) (hi : nth L i = some (a, Ary Z .int vs)) (hd : decode bytes pc = .ok (.iastore, 1)) (pc' : Nat) (hp : pc + 1 = pc') (hx : ¬ y < 0) (j : Nat) (hj : y.toNatClampNeg = j) (hl : j < vs.length) (z : Int32) (hz : x = z) (k : ∀ T', St p l e R s m args below meth c Z EL h0 L0 T' (upd L i (a, Ary Z .int (upd vs j (.int z)))) M cells slots → Go p e below Q (T'.setTop (mkF m pc' Ls st))) : Go p e below Q (T.setTop (mkF m pc Ls (.int x :: .int y :: .ref a :: st))) := by
  subst hp hz
  obtain ⟨cl, h1, A⟩ := S.at i hi
  obtain ⟨s', locs, X, hZ, hown, ksame, kext, kwr⟩ := S.opn C
  obtain ⟨T', h', X', e', W, stp⟩ := stI X C.1 hZ rfl (A.arr h1) (in_of A.size hx hj hl) (g := mkF m pc Ls (.int x :: .int y :: .ref a :: st)) rfl rfl (C.hd hd)
  exact Go.step stp (k T' (kwr T' h' i a _ _ _ _ hi X' e' W fun c _ P _ => by rw [hj]; exact P.put (rfl)))
theorem Cx.castore (C : Cx p s m meth c Z EL own bytes maxl ret nm) (S : St p l e R s m args below meth c Z EL h0 L0 T L M cells slots) {a : Addr} {vs : List Value} {y : Int32} {x : Int32} (i : Nat) (hi : nth L i = some (a, Ary Z .char vs)) (hd : decode bytes pc = .ok (.castore, 1)) (pc' : Nat) (hp : pc + 1 = pc') (hx : ¬ y < 0) (j : Nat) (hj : y.toNatClampNeg = j) (hl : j < vs.length) (z : Int32) (hz : nar .char x = z) (k : ∀ T', St p l e R s m args below meth c Z EL h0 L0 T' (upd L i (a, Ary Z .char (upd vs j (.int z)))) M cells slots → Go p e below Q (T'.setTop (mkF m pc' Ls st))) : Go p e below Q (T.setTop (mkF m pc Ls (.int x :: .int y :: .ref a :: st))) := by
  subst hp hz
  obtain ⟨cl, h1, A⟩ := S.at i hi
  obtain ⟨s', locs, X, hZ, hown, ksame, kext, kwr⟩ := S.opn C
  obtain ⟨T', h', X', e', W, stp⟩ := stC X C.1 hZ rfl (A.arr h1) (in_of A.size hx hj hl) (g := mkF m pc Ls (.int x :: .int y :: .ref a :: st)) rfl rfl (C.hd hd)
  exact Go.step stp (k T' (kwr T' h' i a _ _ _ _ hi X' e' W fun c _ P _ => by rw [hj]; exact P.put (fits_nar_char _)))
theorem Cx.bastore (C : Cx p s m meth c Z EL own bytes maxl ret nm) (S : St p l e R s m args below meth c Z EL h0 L0 T L M cells slots) {a : Addr} {vs : List Value} {y : Int32} {x : Int32} (i : Nat) (hi : nth L i = some (a, Ary Z .byte vs)) (hd : decode bytes pc = .ok (.bastore, 1)) (pc' : Nat) (hp : pc + 1 = pc') (hx : ¬ y < 0) (j : Nat) (hj : y.toNatClampNeg = j) (hl : j < vs.length) (z : Int32) (hz : nar .byte x = z) (k : ∀ T', St p l e R s m args below meth c Z EL h0 L0 T' (upd L i (a, Ary Z .byte (upd vs j (.int z)))) M cells slots → Go p e below Q (T'.setTop (mkF m pc' Ls st))) : Go p e below Q (T.setTop (mkF m pc Ls (.int x :: .int y :: .ref a :: st))) := by
  subst hp hz
  obtain ⟨cl, h1, A⟩ := S.at i hi
  obtain ⟨s', locs, X, hZ, hown, ksame, kext, kwr⟩ := S.opn C
  obtain ⟨T', h', X', e', W, stp⟩ := stB X C.1 hZ rfl (A.arr h1) (in_of A.size hx hj hl) (g := mkF m pc Ls (.int x :: .int y :: .ref a :: st)) rfl rfl (C.hd hd)
  exact Go.step stp (k T' (kwr T' h' i a _ _ _ _ hi X' e' W fun c _ P _ => by rw [hj]; exact P.put (fits_nar_byte _)))
theorem Cx.aastore (C : Cx p s m meth c Z EL own bytes maxl ret nm) (S : St p l e R s m args below meth c Z EL h0 L0 T L M cells slots) {a : Addr} {K : String} {vs : List Value} {y : Int32} {v : Value} (i : Nat) (hi : nth L i = some (a, AryR Z K vs)) (F : Sto Z T.heap a v) (hf : v.isRef = true) (hd : decode bytes pc = .ok (.aastore, 1)) (pc' : Nat) (hp : pc + 1 = pc') (hx : ¬ y < 0) (j : Nat) (hj : y.toNatClampNeg = j) (hl : j < vs.length)
    (k : ∀ T', St p l e R s m args below meth c Z EL h0 L0 T' (upd L i (a, AryR Z K (upd vs j v))) M cells slots → Go p e below Q (T'.setTop (mkF m pc' Ls st))) : Go p e below Q (T.setTop (mkF m pc Ls (v :: .int y :: .ref a :: st))) := by
  subst hp
  obtain ⟨cl, h1, A, V⟩ := S.at i hi
  obtain ⟨s', locs, X, hZ, hown, ksame, kext, kwr⟩ := S.opn C
  obtain ⟨T', h', X', e', W, stp⟩ := stR X C.1 hZ rfl (A.arr h1) (in_of A.size hx hj hl) rfl F (g := mkF m pc Ls (v :: .int y :: .ref a :: st)) rfl rfl (C.hd hd)
  have hfit : fits (.object K) v = true := by rcases ref_cases hf with rfl | ⟨_, rfl⟩ <;> rfl
  exact Go.step stp (k T' (kwr T' h' i a _ _ _ _ hi X' e' W fun c _ P _ => by rw [hj]; exact ⟨P.1.put hfit, P.2⟩))
theorem Cx.checkcast (C : Cx p s m meth c Z EL own bytes maxl ret nm) (S : St p l e R s m args below meth c Z EL h0 L0 T L M cells slots) {idx : Nat} {K : String} {a : Addr} (w : (Jvm.Cond.classLink own idx K).before a0 Z = true) (I : Ins Z T.heap a K true) (hd : decode bytes pc = .ok (.checkcast idx, 3)) (pc' : Nat) (hp : pc + 3 = pc')
    (k : ∀ T', St p l e R s m args below meth c Z EL h0 L0 T' L M cells slots → Go p e below Q (T'.setTop (mkF m pc' Ls (.ref a :: st)))) : Go p e below Q (T.setTop (mkF m pc Ls (.ref a :: st))) := by
  subst hp
  obtain ⟨s', locs, X, hZ, hown, ksame, kext, kwr⟩ := S.opn C
  obtain ⟨T', X', e', stp⟩ := castY X C.1 hZ hown w rfl I (g := mkF m pc Ls (.ref a :: st)) rfl rfl (C.hd hd)
  exact Go.step stp (k T' (ksame T' X' e'))
theorem Cx.objInit (C : Cx p s m meth c Z EL own bytes maxl ret nm) (S : St p l e R s m args below meth c Z EL h0 L0 T L M cells slots) {idx : Nat} {a : Addr} (w1 : (Jvm.Cond.methodLink own idx Lib.objectInit).before a0 Z = true) (w2 : (Jvm.Cond.instanceMethod Lib.objectInit).before a0 Z = true) (w3 : (Jvm.Cond.code Lib.objectInit ⟨#[0xb1]⟩ 1 none).before a0 Z = true) (hd : decode bytes pc = .ok (.invokespecial idx, 3)) (pc' : Nat) (hp : pc + 3 = pc') (hz : Ls.size = maxl)
    (hf : 1 ≤ R.frames) (hl : (st.map fun v => v.category).sum + 12 ≤ R.locals) (k : ∀ T', St p l e R s m args below meth c Z EL h0 L0 T' L M cells slots → Go p e below Q (T'.setTop (mkF m pc' Ls st))) : Go p e below Q (T.setTop (mkF m pc Ls (.ref a :: st))) := by
  subst hp
  obtain ⟨s', locs, X, hZ, hown, ksame, kext, kwr⟩ := S.opn C
  obtain ⟨T', X', e', stp⟩ := initO X C.1 hZ hown w1 w2 w3 rfl (g := mkF m pc Ls (.ref a :: st)) rfl (hz.trans C.2.2.1.symm) rfl (C.hd hd) hf (W := (st.map fun v => v.category).sum) (by show 2 * 0 + _ ≤ _; omega) hl
  exact Go.step stp (k T' (ksame T' X' e'))
theorem Cx.ldcInt (C : Cx p s m meth c Z EL own bytes maxl ret nm) (S : St p l e R s m args below meth c Z EL h0 L0 T L M cells slots) {idx : Nat} {v : Int32} (w : (Jvm.Cond.constant own idx v).before a0 Z = true) (hd : decode bytes pc = .ok (.ldc idx, 2)) (pc' : Nat) (hp : pc + 2 = pc') (k : Go p e below Q (T.setTop (mkF m pc' Ls (.int v :: st)))) : Go p e below Q (T.setTop (mkF m pc Ls st)) := by
  subst hp
  obtain ⟨s', locs, X, hZ, hown, ksame, kext, kwr⟩ := S.opn C
  exact Go.step (fun t k => X.ldcI C.1 hown (mvT hZ w) (g := mkF m pc Ls st) rfl (C.hd hd) k) k
theorem arv_ary {h : Heap} {b : Addr} {k : ClassId} {ty : FieldType} {z : Int32} {vs : List Value} {d : Value} (F : Arv Z h b k ty z vs d) (hl : z.toNatClampNeg = vs.length) : Live h (b, Ary Z ty vs) := by
  obtain ⟨cl, A, -, h3, -, H, F⟩ := F
  have hsz : cl.slots.size = vs.length := h3.trans hl
  refine ⟨cl, A.1, A.2, ?_, fun v hv => ?_⟩
  · apply List.ext_getElem?
    intro i
    by_cases q : i < vs.length
    · have q2 := H i (hsz ▸ q)
      rw [Array.getElem?_toList, q2, List.getD_eq_getElem?_getD, List.getElem?_eq_getElem q]; rfl
    · rw [List.getElem?_eq_none (Nat.le_of_not_lt q), List.getElem?_eq_none (by rw [Array.length_toList, hsz]; exact Nat.le_of_not_lt q)]
  · obtain ⟨i, hi, rfl⟩ := List.getElem_of_mem hv
    have := F i (hsz ▸ hi)
    rwa [List.getD_eq_getElem?_getD, List.getElem?_eq_getElem hi] at this
theorem ary_arv {h : Heap} {b : Addr} {ty : FieldType} {vs : List Value} {cl : Cell} (h1 : h[b]? = some cl) (A : Ary Z ty vs cl) (hl : vs.length < 2 ^ 31) : Arv Z h b cl.cls ty (Int32.ofNat vs.length) vs .null := by
  refine ⟨cl, A.arr h1, rfl, by rw [ofn_nat hl]; exact A.size, ofn_nn hl, fun k hk => ?_, fun k hk => ?_⟩
  · rw [A.size] at hk
    have := A.get (i := k) (v := vs[k]) (by rw [nth_get, List.getElem?_eq_getElem hk])
    rw [this, List.getD_eq_getElem?_getD, List.getElem?_eq_getElem hk]; rfl
  · rw [A.size] at hk
    rw [List.getD_eq_getElem?_getD, List.getElem?_eq_getElem hk]
    exact A.2.2 _ (List.getElem_mem hk)
theorem ret_fin {Rel : Option Value → HL → HL → Prop} {v : Option Value} {t : State} (C : Cx p s m meth c Z EL own bytes maxl ret nm) (S : St p l e R s m args below meth c Z EL h0 L0 T L M cells slots) (hv : ret = none → v = none) (is : List Nat) {L1 : HL} (hp : OwnK.pick L is = L1) (his : is.Nodup) (js : List Nat) {M1 : HL} (hpm : OwnK.pick M js = M1) (hro : ∀ x ∈ M1, RoN Z EL s.vm h0 x.1) (hr : Rel v L1 M1) (ha : (adr L1).take L0.length = adr L0) (hc : cells ≤ R.cells) (hs : slots ≤ R.slots)
    (k : ∀ fs, (∀ (f : JFrame) (acts : List Action), f.method = m → f.locked = none → f.entered = [] → (doReturn e (T.setTop f) acts v).1 = T.setFrames fs) → Steps p.tables e below t (T.setFrames fs)) : Go p e below (Qw R s Z EL h0 L0 Rel) t := by
  have S2 := S.pick is js hp hpm his
  have hE := C.2.2.2.2.2.2.2.2
  obtain ⟨locs, vm0, X, hS, hC, N, O, K, G, q⟩ := S2
  have hZ : Z.Warmed39 vm0 := State.Warmed39.trans C.2.2.2.2.2.2.1 hS.1
  obtain ⟨a0, hEL⟩ := hE
  have hT := CHv.at X hZ hEL hC.1
  obtain ⟨fs, hl, hrun, hended, hW⟩ := X.leaveW hS (Nat.le_refl _) (v := v) (fun q => hv (C.2.2.2.2.1 ▸ q)) C.2.2.2.2.2.1
  refine ⟨_, _, k fs hl, hrun, hended, v, locs, rfl, ⟨N, O, K, hC.trans hT, L1, M1, hr, ha, G.mono fun x hx z => ⟨z.1, z.2.1, hT.safe (G.lt (mem_adr hx)) z.2.2⟩, fun x hx => ⟨(q x hx).1, (q x hx).2, hro x hx⟩⟩, hW.1, hW.2.1, hW.2.2.1, hW.2.2.2.mono hc hs⟩

theorem Cx.retV {Rel : Option Value → HL → HL → Prop}  (C : Cx p s m meth c Z EL own bytes maxl none nm) (S : St p l e R s m args below meth c Z EL h0 L0 T L M cells slots) (hd : decode bytes pc = .ok (.return_, 1)) (is : List Nat) {L1 : HL} (hp : OwnK.pick L is = L1) (his : is.Nodup) (js : List Nat) {M1 : HL} (hpm : OwnK.pick M js = M1) (hro : ∀ x ∈ M1, RoN Z EL s.vm h0 x.1) (hr : Rel none L1 M1) (ha : (adr L1).take L0.length = adr L0) (hc : cells ≤ R.cells) (hs : slots ≤ R.slots) :
    Go p e below (Qw R s Z EL h0 L0 Rel) (T.setTop (mkF m pc Ls [])) :=
  ret_fin C S (fun q => rfl) is hp his js hpm hro hr ha hc hs fun fs hl => by
    obtain ⟨s', locs, X, hZ, hown, ksame, kext, kwr⟩ := S.opn C
    exact X.returnOut C.1 C.2.2.2.2.1 (C.hd hd) hl
theorem Cx.retA {Rel : Option Value → HL → HL → Prop} {t : FieldType} {v : Value} (C : Cx p s m meth c Z EL own bytes maxl (some t) nm) (S : St p l e R s m args below meth c Z EL h0 L0 T L M cells slots) (ht : t.isReference = true) (hv : v.isRef = true) (hd : decode bytes pc = .ok (.areturn, 1)) (is : List Nat) {L1 : HL} (hp : OwnK.pick L is = L1) (his : is.Nodup) (js : List Nat) {M1 : HL} (hpm : OwnK.pick M js = M1) (hro : ∀ x ∈ M1, RoN Z EL s.vm h0 x.1) (hr : Rel (some v) L1 M1) (ha : (adr L1).take L0.length = adr L0) (hc : cells ≤ R.cells) (hs : slots ≤ R.slots) :
    Go p e below (Qw R s Z EL h0 L0 Rel) (T.setTop (mkF m pc Ls (v :: st))) :=
  ret_fin C S (fun q => nomatch q) is hp his js hpm hro hr ha hc hs fun fs hl => by
    obtain ⟨s', locs, X, hZ, hown, ksame, kext, kwr⟩ := S.opn C
    have hn : narrow t v = v := by cases t <;> first | rfl | (simp [FieldType.isReference] at ht)
    exact retOut X C.1 C.2.2.2.2.1 hn (Or.inr (Or.inr (Or.inr (Or.inr ⟨rfl, ht, hv⟩)))) (C.hd hd) hl
theorem Cx.retI {Rel : Option Value → HL → HL → Prop} {z : Int32} (C : Cx p s m meth c Z EL own bytes maxl (some .int) nm) (S : St p l e R s m args below meth c Z EL h0 L0 T L M cells slots) (hd : decode bytes pc = .ok (.ireturn, 1)) (is : List Nat) {L1 : HL} (hp : OwnK.pick L is = L1) (his : is.Nodup) (js : List Nat) {M1 : HL} (hpm : OwnK.pick M js = M1) (hro : ∀ x ∈ M1, RoN Z EL s.vm h0 x.1) (hr : Rel (some (.int z)) L1 M1) (ha : (adr L1).take L0.length = adr L0) (hc : cells ≤ R.cells) (hs : slots ≤ R.slots) :
    Go p e below (Qw R s Z EL h0 L0 Rel) (T.setTop (mkF m pc Ls (.int z :: st))) :=
  ret_fin C S (fun q => nomatch q) is hp his js hpm hro hr ha hc hs fun fs hl => by
    obtain ⟨s', locs, X, hZ, hown, ksame, kext, kwr⟩ := S.opn C
    exact retOut X C.1 C.2.2.2.2.1 rfl (Or.inl ⟨rfl, Or.inl rfl, z, rfl⟩) (C.hd hd) hl
theorem Cx.retN {Rel : Option Value → HL → HL → Prop} {t : FieldType} {z : Int32} (C : Cx p s m meth c Z EL own bytes maxl (some t) nm) (S : St p l e R s m args below meth c Z EL h0 L0 T L M cells slots) (ht : t = .boolean ∨ t = .byte ∨ t = .char ∨ t = .short) (hd : decode bytes pc = .ok (.ireturn, 1)) (z' : Int32) (hz : nar t z = z') (is : List Nat) {L1 : HL} (hp : OwnK.pick L is = L1) (his : is.Nodup) (js : List Nat) {M1 : HL} (hpm : OwnK.pick M js = M1) (hro : ∀ x ∈ M1, RoN Z EL s.vm h0 x.1) (hr : Rel (some (.int z')) L1 M1) (ha : (adr L1).take L0.length = adr L0) (hc : cells ≤ R.cells) (hs : slots ≤ R.slots) :
    Go p e below (Qw R s Z EL h0 L0 Rel) (T.setTop (mkF m pc Ls (.int z :: st))) :=
  ret_fin C S (fun q => nomatch q) is hp his js hpm hro hr ha hc hs fun fs hl => by
    obtain ⟨s', locs, X, hZ, hown, ksame, kext, kwr⟩ := S.opn C
    subst hz
    exact RoadKit.retN X C.1 C.2.2.2.2.1 ht (C.hd hd) hl

theorem backX {y : MethodName} {bytesC : ByteArray} {maxC : Nat} {retC : Option FieldType} {rm : Room} {len W : Nat} {as' : Array Value} {N0 : HL} {Rel : Option Value → HL → HL → Prop} {h : Heap} {vm0 : Vm}
    (hM : MetFree l y (head1 [Jvm.Cond.code y bytesC maxC retC] rm) (fun a U => a = as' ∧ Z.Warmed39 U.vm ∧ U.heap = h ∧ CHr Z EL vm0 h U.vm h) (fun _ _ _ _ _ => True) (fun _ U o U' => Qb rm U Z EL vm0 h N0 Rel o U'))
    (hZ : Z.Warmed39 vm0) (wc : (Jvm.Cond.code y bytesC maxC retC).before a0 Z = true) (wz : (Jvm.Cond.initialized y.cls).before a0 Z = true) (hf : rm.frames + 1 ≤ R.frames) (hl : W + (maxC + 11) + rm.locals ≤ R.locals) {a1 : Array Value} (hEL : EW Z a1 EL) (H : CHv Z EL vm0 h) :
    BackS l R p e below (s.setVm vm0) args y len W (fun A a => a = as' ∧ A.U.heap = h ∧ A.cells + rm.cells ≤ R.cells ∧ A.slots + rm.slots ≤ R.slots)
      (fun A _ v B => ∃ Lc, Post Z EL vm0 h N0 Rel v B.U Lc ∧ B.locs = A.locs ++ Lc ∧ B.cells = A.cells + rm.cells ∧ B.slots = A.slots + rm.slots) :=
  BackS.of_freeW (bytes := bytesC) (maxL := maxC) (ret := retC) (E := fun _ first o t L k n => k = rm.cells ∧ n = rm.slots ∧ ∃ v, o = .returned v ∧ Post Z EL vm0 h N0 Rel v t L) hM hf hl
    (fun m meth c A a Y hp => have hU : Z.Warmed39 A.U.vm := wtrans (s := s.setVm vm0) hZ Y.warmed
      ⟨by show (Jvm.Cond.and _ .tt).before a A.U = true; rw [Cond.before_and, mv hU wc]; rfl, mv hU wc, mv hU wz, hp.2.2.1, hp.2.2.2⟩)
    (fun m meth c A a g mk Y hp => ⟨hp.1, wtrans (s := s.setVm vm0) hZ Y.warmed, hp.2.1, (show CHr Z EL vm0 h A.U.vm h from CHv.at Y hZ hEL H)⟩) (fun _ _ _ _ _ _ _ _ _ => trivial)
    (fun _ _ _ _ ⟨v, L, h1, h2, h3⟩ => ⟨L, _, _, h3, rfl, rfl, v, h1, h2⟩)
    (fun m meth c A a g mk v t L k n Y hp _ _ ⟨e1, e2, v', e3, e4⟩ => by
      cases e3; subst e1 e2
      exact ⟨L, e4, rfl, rfl, rfl⟩)
theorem back_fin {N0 : HL} {Rel : Option Value → HL → HL → Prop} {T' : State} {vm0 : Vm} {locs Lc : List Loc} {v : Option Value} {is : List Nat} {dc ds : Nat} (hS : s.Since vm0 T.heap.size) (hC : CHr Z EL s.vm h0 vm0 T.heap) (N : Fr Z.heap.size locs) (Kp : Keep h0 T.heap (adr L0)) (G : Good (Bs Z EL vm0 T.heap h0 L0) T.heap L) (q : RoL T.heap L M) (hpk : OwnK.pick L is = N0) (hln : N0.length = is.length)
    (X' : Stand p l e R (s.setVm T'.vm) m args below meth c T' (locs ++ Lc) (cells + dc) (slots + ds)) (hS' : (s.setVm vm0).Since T'.vm T'.heap.size) (hg : T.heap.size ≤ T'.heap.size) (hQ : Post Z EL vm0 T.heap N0 Rel v T' Lc) :
    ∃ L1 M1, Rel v L1 M1 ∧ (∀ x ∈ M1, RoN Z EL s.vm h0 x.1) ∧ St p l e R s m args below meth c Z EL h0 L0 T' (puts L is (L1.take N0.length) ++ L1.drop N0.length) (M ++ M1) (cells + dc) (slots + ds) := by
  obtain ⟨N', O', K', hC', L1, M1, hr, ha, G1, hM1⟩ := hQ
  have hsub : ∀ x ∈ adr N0, x ∈ adr L := fun x hx => by
    subst hpk
    obtain ⟨y, hy, rfl⟩ := List.mem_map.mp hx
    obtain ⟨i, -, hi⟩ := pick_mem hy
    exact mem_adr (nth_mem hi)
  have hsub2 : ∀ x ∈ adr N0, x ∈ adr L0 ∨ h0.size ≤ x := fun x hx => by
    obtain ⟨y, hy, rfl⟩ := List.mem_map.mp (hsub x hx)
    exact (G.2 y hy).1.2.1
  have Gc : Good (Bs Z EL T'.vm T'.heap h0 L0) T'.heap (puts L is (L1.take N0.length) ++ L1.drop N0.length) := by
    have G0 : Good (fun a => Z.heap.size ≤ a ∧ (a ∈ adr L0 ∨ h0.size ≤ a)) T.heap L := G.mono fun x _ z => ⟨z.1, z.2.1⟩
    have G2 : Good (fun a => Z.heap.size ≤ a ∧ (a ∈ adr N0 ∨ T.heap.size ≤ a)) T'.heap L1 := G1.mono fun x _ z => ⟨z.1, z.2.1⟩
    have G3 := G0.call hpk hln K' ha G2 fun a q1 q2 => ⟨q1, Or.inr (Nat.le_trans Kp.1 q2)⟩
    refine ⟨G3.1, fun x hx => ?_⟩
    obtain ⟨⟨b1, b2⟩, lv⟩ := G3.2 x hx
    refine ⟨⟨b1, b2, ?_⟩, lv⟩
    have hal : x ∈ L1 ∨ x.1 ∈ adr L := by
      rcases List.mem_append.mp hx with hx | hx
      · have z : x.1 ∈ adr (puts L is (L1.take N0.length)) := mem_adr hx
        refine Or.inr ?_
        have F : Fit2 L is (L1.take N0.length) := by
          subst hpk
          refine fit2_of hln ?_
          rw [← ha]; simp [adr, List.map_take]
        rw [puts_adr F] at z; exact z
      · exact Or.inl (List.mem_of_mem_drop hx)
    rcases hal with h1 | h1
    · exact (G1.2 x h1).1.2.2
    · obtain ⟨y, hy, e⟩ := List.mem_map.mp h1
      have h2 := (G.2 y hy)
      rw [e] at h2
      exact hC'.safe (e ▸ h2.2.lt) h2.1.2.2
  refine ⟨L1, M1, hr, fun x hx => (hM1 x hx).2.2.back hC, ?_⟩
  refine ⟨_, T'.vm, X', hS.trans hS' hg, hC.trans hC', N.app N', O', Kp.trans K' hsub2, Gc, fun x hx => ?_⟩
  rcases List.mem_append.mp hx with hx | hx
  · obtain ⟨⟨cl, h1, h2⟩, r⟩ := q x hx
    refine ⟨⟨cl, K'.2.1 _ _ h1 fun z => r (hsub _ z), h2⟩, fun z => ?_⟩
    rw [adr, List.map_append] at z
    rcases List.mem_append.mp z with z | z
    · have F : Fit2 L is (L1.take N0.length) := by
        subst hpk
        refine fit2_of hln ?_
        rw [← ha]; simp [adr, List.map_take]
      have z' : x.1 ∈ adr (puts L is (L1.take N0.length)) := z
      rw [puts_adr F] at z'; exact r z'
    · obtain ⟨y, hy, e⟩ := List.mem_map.mp z
      have hb := (G1.2 y (List.mem_of_mem_drop hy)).1.2.1
      have hnd := G1.1
      rw [← List.take_append_drop N0.length L1, adr, List.map_append] at hnd
      have hdis := (List.nodup_append.mp hnd).2.2
      rcases hb with hb | hb
      · have ha' : adr (L1.take N0.length) = adr N0 := by rw [← ha]; simp [adr, List.map_take]
        exact hdis _ (show y.1 ∈ adr (L1.take N0.length) by rw [ha']; exact hb) _ (mem_adr hy) rfl
      · have := (Array.getElem?_eq_some_iff.mp h1).1
        rw [← e] at this; exact Nat.not_lt.mpr hb this
  · obtain ⟨lv, r, rn⟩ := hM1 x hx
    refine ⟨lv, fun z => ?_⟩
    rw [adr, List.map_append] at z
    rcases List.mem_append.mp z with z | z
    · have F : Fit2 L is (L1.take N0.length) := by
        subst hpk
        refine fit2_of hln ?_
        rw [← ha]; simp [adr, List.map_take]
      have z' : x.1 ∈ adr (puts L is (L1.take N0.length)) := z
      rw [puts_adr F] at z'
      obtain ⟨y, hy, e⟩ := List.mem_map.mp z'
      obtain ⟨⟨-, -, sf⟩, lvy⟩ := G.2 y hy
      rcases rn with rn | rn
      · rw [← e] at rn; exact sf rn
      · rw [← e] at rn; exact Nat.not_lt.mpr rn lvy.lt
    · obtain ⟨y, hy, e⟩ := List.mem_map.mp z
      exact r (e ▸ mem_adr (List.mem_of_mem_drop hy))
theorem ro_pick {K0 : HL} {js is : List Nat} {N0 : HL} (q : RoL T.heap L M) (hpk : OwnK.pick L is = N0) (hpm : OwnK.pick M js = K0) : RoL T.heap N0 K0 := fun x hx => by
  subst hpk hpm
  obtain ⟨j, -, hj⟩ := pick_mem hx
  obtain ⟨r1, r2⟩ := q x (nth_mem hj)
  refine ⟨r1, fun z => r2 ?_⟩
  obtain ⟨y, hy, e⟩ := List.mem_map.mp z
  obtain ⟨i, -, hi⟩ := pick_mem hy
  exact e ▸ mem_adr (nth_mem hi)

theorem Cx.callStatic (C : Cx p s m meth c Z EL own bytes maxl ret nm) (S : St p l e R s m args below meth c Z EL h0 L0 T L M cells slots) {N0 K0 : HL} {Rel : Option Value → HL → HL → Prop} {rm : Room} {as' : Array Value} {bytesC : ByteArray} {maxC : Nat} {idx : Nat} {y : MethodName} {retC : Option FieldType} (w1 : (Jvm.Cond.methodLink own idx y).before a0 Z = true) (w2 : (Jvm.Cond.static y).before a0 Z = true) (w3 : (Jvm.Cond.initialized y.cls).before a0 Z = true) (w4 : (Jvm.Cond.code y bytesC maxC retC).before a0 Z = true) (hy : y.cls ≠ "java/lang/invoke/MethodHandle" ∧ y.cls ≠ "java/lang/invoke/VarHandle")
    (H : Con l Z EL y bytesC maxC retC rm as' N0 K0 Rel) (hd : decode bytes pc = .ok (.invokestatic idx, 3)) (pc' : Nat) (hp : pc + 3 = pc') (hz : Ls.size = maxl) {ps : List FieldType} {rt : Option FieldType} (hpd : parseMethodDescriptor y.desc = some ⟨ps, rt⟩) {stk : List Value} (argsL rest : List Value) (hst : stk = argsL.reverse ++ rest) (hlen : argsL.length = ps.length) (has : argsL.toArray = as')
    (is : List Nat) (hpk : OwnK.pick L is = N0) (his : is.Nodup) (hln : N0.length = is.length) (hK : RoL T.heap N0 K0) (hfr : rm.frames + 1 ≤ R.frames) (hlo : (rest.map fun v => v.category).sum + (maxC + 11) + rm.locals ≤ R.locals) (hcl : cells + rm.cells ≤ R.cells) (hsl : slots + rm.slots ≤ R.slots)
    (k : ∀ (T' : State) (v : Option Value) (L1 M1 : HL), Rel v L1 M1 → (∀ x ∈ M1, RoN Z EL s.vm h0 x.1) → St p l e R s m args below meth c Z EL h0 L0 T' (puts L is (L1.take N0.length) ++ L1.drop N0.length) (M ++ M1) (cells + rm.cells) (slots + rm.slots) → Go p e below Q (T'.setTop (mkF m pc' Ls (v.toList ++ rest)))) : Go p e below Q (T.setTop (mkF m pc Ls stk)) := by
  subst hp hst
  obtain ⟨a1, hEL⟩ := C.2.2.2.2.2.2.2.2
  obtain ⟨locs, vm0, X, hS, hC, N, O, Kp, G, q⟩ := S
  have hZ : Z.Warmed39 vm0 := State.Warmed39.trans C.2.2.2.2.2.2.1 hS.1
  have hown : vm0.findClass own = some m.cls := by rw [hS.1.alike.findClass]; exact C.2.2.2.1
  have G0 : Good (fun a => Z.heap.size ≤ a ∧ Safe Z EL vm0 T.heap a) T.heap N0 := hpk ▸ (G.pick his).mono fun x _ z => ⟨z.1, z.2.2⟩
  obtain ⟨v, _, ⟨T', L', k', n'⟩, -, X', hS', hg, ⟨Lc, hQ, l1, y1, z1⟩, stp⟩ := callSS X C.1 (y := y) hown (mvT hZ w1) (mvT hZ w2) (mvT hZ w3) (mvT hZ w4) hy (backX (W := (rest.map fun v => v.category).sum) (H [] T.heap vm0 O G0 hK ⟨a1, hEL⟩) hZ w4 w3 hfr hlo hEL hC.1) (g := mkF m pc Ls (argsL.reverse ++ rest)) rfl (hz.trans C.2.2.1.symm) (argsL := argsL) (rest := rest) (lenOf hpd hlen) rfl (by show 2 * 0 + _ ≤ _; omega) (C.hd hd) (fun _ _ => ⟨has, rfl, hcl, hsl⟩)
  dsimp only [Pt.U, Pt.locs, Pt.cells, Pt.slots] at X' l1 y1 z1 stp hQ hS' hg
  subst l1 y1 z1
  obtain ⟨L1, M1, hr, hn, S'⟩ := back_fin hS hC N Kp G q hpk hln X' hS' hg hQ
  exact Go.trans stp (k T' v L1 M1 hr hn S')
theorem Cx.callSpecial (C : Cx p s m meth c Z EL own bytes maxl ret nm) (S : St p l e R s m args below meth c Z EL h0 L0 T L M cells slots) {N0 K0 : HL} {Rel : Option Value → HL → HL → Prop} {rm : Room} {as' : Array Value} {bytesC : ByteArray} {maxC : Nat} {idx : Nat} {y : MethodName} {a : Addr} (hy1 : y.name = "<init>") (w1 : (Jvm.Cond.methodLink own idx y).before a0 Z = true) (w2 : (Jvm.Cond.instanceMethod y).before a0 Z = true) (w3 : (Jvm.Cond.initialized y.cls).before a0 Z = true) (w4 : (Jvm.Cond.code y bytesC maxC none).before a0 Z = true) (hy : y.cls ≠ "java/lang/invoke/MethodHandle" ∧ y.cls ≠ "java/lang/invoke/VarHandle")
    (H : Con l Z EL y bytesC maxC none rm as' N0 K0 Rel) (hd : decode bytes pc = .ok (.invokespecial idx, 3)) (pc' : Nat) (hp : pc + 3 = pc') (hz : Ls.size = maxl) {ps : List FieldType} {rt : Option FieldType} (hpd : parseMethodDescriptor y.desc = some ⟨ps, rt⟩) {stk : List Value} (argsL rest : List Value) (hst : stk = argsL.reverse ++ .ref a :: rest) (hlen : argsL.length = ps.length) (has : (Value.ref a :: argsL).toArray = as')
    (is : List Nat) (hpk : OwnK.pick L is = N0) (his : is.Nodup) (hln : N0.length = is.length) (hK : RoL T.heap N0 K0) (hfr : rm.frames + 1 ≤ R.frames) (hlo : (rest.map fun v => v.category).sum + (maxC + 11) + rm.locals ≤ R.locals) (hcl : cells + rm.cells ≤ R.cells) (hsl : slots + rm.slots ≤ R.slots)
    (k : ∀ (T' : State) (v : Option Value) (L1 M1 : HL), Rel v L1 M1 → (∀ x ∈ M1, RoN Z EL s.vm h0 x.1) → St p l e R s m args below meth c Z EL h0 L0 T' (puts L is (L1.take N0.length) ++ L1.drop N0.length) (M ++ M1) (cells + rm.cells) (slots + rm.slots) → Go p e below Q (T'.setTop (mkF m pc' Ls (v.toList ++ rest)))) : Go p e below Q (T.setTop (mkF m pc Ls stk)) := by
  subst hp hst
  obtain ⟨a1, hEL⟩ := C.2.2.2.2.2.2.2.2
  obtain ⟨locs, vm0, X, hS, hC, N, O, Kp, G, q⟩ := S
  have hZ : Z.Warmed39 vm0 := State.Warmed39.trans C.2.2.2.2.2.2.1 hS.1
  have hown : vm0.findClass own = some m.cls := by rw [hS.1.alike.findClass]; exact C.2.2.2.1
  have G0 : Good (fun a => Z.heap.size ≤ a ∧ Safe Z EL vm0 T.heap a) T.heap N0 := hpk ▸ (G.pick his).mono fun x _ z => ⟨z.1, z.2.2⟩
  obtain ⟨v, _, ⟨T', L', k', n'⟩, -, X', hS', hg, ⟨Lc, hQ, l1, y1, z1⟩, stp⟩ := X.specialBackS C.1 (y := y) hy1 hown (mvT hZ w1) (mvT hZ w2) (mvT hZ w4) hy (backX (W := (rest.map fun v => v.category).sum) (H [] T.heap vm0 O G0 hK ⟨a1, hEL⟩) hZ w4 w3 hfr hlo hEL hC.1) (g := mkF m pc Ls (argsL.reverse ++ .ref a :: rest)) rfl (hz.trans C.2.2.1.symm) (Steps.refl _) (a := a) (argsL := argsL) (rest := rest) (lenOf hpd hlen) rfl (by show 2 * 0 + _ ≤ _; omega) (C.hd hd) (fun _ _ => ⟨has, rfl, hcl, hsl⟩)
  dsimp only [Pt.U, Pt.locs, Pt.cells, Pt.slots] at X' l1 y1 z1 stp hQ hS' hg
  subst l1 y1 z1
  obtain ⟨L1, M1, hr, hn, S'⟩ := back_fin hS hC N Kp G q hpk hln X' hS' hg hQ
  exact Go.trans stp (k T' v L1 M1 hr hn S')
theorem nf_sib {s : State} {args : Array Value} {y y' : MethodName} {KS : String} (hc : y'.cls = y.cls) (w : (Jvm.Cond.instanceMethod y').before args s = true) (ws : (Jvm.Cond.selects KS y' y').before args s = true) : NotFace s y := fun r0 h0 => by
  obtain ⟨m', -, hn', -⟩ := Cond.instanceMethod_spec w
  obtain ⟨kr, k1, k2⟩ := notFace_of_selects ws m' hn'
  have f1 := findClass_of_methodNamed h0
  have f2 := findClass_of_methodNamed hn'
  rw [hc] at f2
  exact ⟨kr, by rw [Option.some.inj (f1.symm.trans f2)]; exact k1, k2⟩
theorem Cx.callVirtual (C : Cx p s m meth c Z EL own bytes maxl ret nm) (S : St p l e R s m args below meth c Z EL h0 L0 T L M cells slots) {N0 K0 : HL} {Rel : Option Value → HL → HL → Prop} {rm : Room} {as' : Array Value} {bytesC : ByteArray} {maxC : Nat} {idx : Nat} {y z : MethodName} {a : Addr} {K : String} {retC : Option FieldType} (E : Exa Z T.heap a K) (w1 : (Jvm.Cond.methodLink own idx y).before a0 Z = true) (w2 : (Jvm.Cond.declares y).before a0 Z = true) (wn : (∃ KS, (Jvm.Cond.selects KS y y).before a0 Z = true) ∨ (∃ S0, (Jvm.Cond.superclass y.cls S0).before a0 Z = true) ∨ (Jvm.Cond.noSuperclass y.cls).before a0 Z = true ∨ (∃ (KS : String) (y' : MethodName), y'.cls = y.cls ∧ (Jvm.Cond.instanceMethod y').before a0 Z = true ∧ (Jvm.Cond.selects KS y' y').before a0 Z = true)) (ws : (Jvm.Cond.selects K y z).before a0 Z = true) (wi : (Jvm.Cond.instanceMethod z).before a0 Z = true) (w3 : (Jvm.Cond.initialized z.cls).before a0 Z = true) (w4 : (Jvm.Cond.code z bytesC maxC retC).before a0 Z = true) (hy : y.cls ≠ "java/lang/invoke/MethodHandle" ∧ y.cls ≠ "java/lang/invoke/VarHandle")
    (H : Con l Z EL z bytesC maxC retC rm as' N0 K0 Rel) (hd : decode bytes pc = .ok (.invokevirtual idx, 3)) (pc' : Nat) (hp : pc + 3 = pc') (hz : Ls.size = maxl) {ps : List FieldType} {rt : Option FieldType} (hpd : parseMethodDescriptor y.desc = some ⟨ps, rt⟩) {stk : List Value} (argsL rest : List Value) (hst : stk = argsL.reverse ++ .ref a :: rest) (hlen : argsL.length = ps.length) (has : (Value.ref a :: argsL).toArray = as')
    (is : List Nat) (hpk : OwnK.pick L is = N0) (his : is.Nodup) (hln : N0.length = is.length) (hK : RoL T.heap N0 K0) (hfr : rm.frames + 1 ≤ R.frames) (hlo : (rest.map fun v => v.category).sum + (maxC + 11) + rm.locals ≤ R.locals) (hcl : cells + rm.cells ≤ R.cells) (hsl : slots + rm.slots ≤ R.slots)
    (k : ∀ (T' : State) (v : Option Value) (L1 M1 : HL), Rel v L1 M1 → (∀ x ∈ M1, RoN Z EL s.vm h0 x.1) → St p l e R s m args below meth c Z EL h0 L0 T' (puts L is (L1.take N0.length) ++ L1.drop N0.length) (M ++ M1) (cells + rm.cells) (slots + rm.slots) → Go p e below Q (T'.setTop (mkF m pc' Ls (v.toList ++ rest)))) : Go p e below Q (T.setTop (mkF m pc Ls stk)) := by
  subst hp hst
  obtain ⟨a1, hEL⟩ := C.2.2.2.2.2.2.2.2
  obtain ⟨locs, vm0, X, hS, hC, N, O, Kp, G, q⟩ := S
  have hZ : Z.Warmed39 vm0 := State.Warmed39.trans C.2.2.2.2.2.2.1 hS.1
  have hown : vm0.findClass own = some m.cls := by rw [hS.1.alike.findClass]; exact C.2.2.2.1
  have G0 : Good (fun a => Z.heap.size ≤ a ∧ Safe Z EL vm0 T.heap a) T.heap N0 := hpk ▸ (G.pick his).mono fun x _ z => ⟨z.1, z.2.2⟩
  obtain ⟨v, _, ⟨T', L', k', n'⟩, -, X', hS', hg, ⟨Lc, hQ, l1, y1, z1⟩, stp⟩ := X.virtualBackS C.1 (y := y) (z := z) hown (mvT hZ w1) (mvT hZ w2) (by
    rcases wn with ⟨KS, q⟩ | ⟨S0, q⟩ | q | ⟨KS, y', q1, q2, q3⟩
    · exact notFace_of_selects (args := #[]) (mvT hZ q)
    · exact nf_super (args := #[]) (mvT hZ q)
    · exact nf_top (args := #[]) (mvT hZ q)
    · exact nf_sib (args := #[]) q1 (mvT hZ q2) (mvT hZ q3)) (mvT hZ ws) (mvT hZ wi) hy (backX (W := (rest.map fun v => v.category).sum) (H [] T.heap vm0 O G0 hK ⟨a1, hEL⟩) hZ w4 w3 hfr hlo hEL hC.1) (isOf (s := s.setVm vm0) (T := T) hZ rfl E).choose_spec.choose_spec.1 (isOf (s := s.setVm vm0) (T := T) hZ rfl E).choose_spec.choose_spec.2.2 (g := mkF m pc Ls (argsL.reverse ++ .ref a :: rest)) rfl (hz.trans C.2.2.1.symm) (Steps.refl _) (argsL := argsL) (rest := rest) (lenOf hpd hlen) rfl (by show 2 * 0 + _ ≤ _; omega) (C.hd hd) (fun _ _ => ⟨has, rfl, hcl, hsl⟩)
  dsimp only [Pt.U, Pt.locs, Pt.cells, Pt.slots] at X' l1 y1 z1 stp hQ hS' hg
  subst l1 y1 z1
  obtain ⟨L1, M1, hr, hn, S'⟩ := back_fin hS hC N Kp G q hpk hln X' hS' hg hQ
  exact Go.trans stp (k T' v L1 M1 hr hn S')
theorem Cx.callIface (C : Cx p s m meth c Z EL own bytes maxl ret nm) (S : St p l e R s m args below meth c Z EL h0 L0 T L M cells slots) {N0 K0 : HL} {Rel : Option Value → HL → HL → Prop} {rm : Room} {as' : Array Value} {bytesC : ByteArray} {maxC : Nat} {idx count : Nat} {y z : MethodName} {a : Addr} {K : String} {retC : Option FieldType} (E : Exa Z T.heap a K) (w1 : (Jvm.Cond.methodLink own idx y).before a0 Z = true) (w2 : (Jvm.Cond.declares y).before a0 Z = true) (wf : (Jvm.Cond.interfaceMethod y.cls y.cls y.name y.desc).before a0 Z = true) (hfa : ((Jvm.Cond.interfaceMethod y.cls y.cls y.name y.desc).onTables && (Jvm.Cond.interfaceMethod y.cls y.cls y.name y.desc).keepsFace) = true) (ws : (Jvm.Cond.selects K y z).before a0 Z = true) (wi : (Jvm.Cond.instanceMethod z).before a0 Z = true) (wp : (Jvm.Cond.publicMethod z).before a0 Z = true) (wu : (Jvm.Cond.unhidden K y.name y.desc).before a0 Z = true) (wc : (Jvm.Cond.castable K y.cls).before a0 Z = true) (w3 : (Jvm.Cond.initialized z.cls).before a0 Z = true) (w4 : (Jvm.Cond.code z bytesC maxC retC).before a0 Z = true) (hy : y.cls ≠ "java/lang/invoke/MethodHandle" ∧ y.cls ≠ "java/lang/invoke/VarHandle")
    (H : Con l Z EL z bytesC maxC retC rm as' N0 K0 Rel) (hd : decode bytes pc = .ok (.invokeinterface idx count, 5)) (pc' : Nat) (hp : pc + 5 = pc') (hz : Ls.size = maxl) {ps : List FieldType} {rt : Option FieldType} (hpd : parseMethodDescriptor y.desc = some ⟨ps, rt⟩) {stk : List Value} (argsL rest : List Value) (hst : stk = argsL.reverse ++ .ref a :: rest) (hlen : argsL.length = ps.length) (has : (Value.ref a :: argsL).toArray = as')
    (is : List Nat) (hpk : OwnK.pick L is = N0) (his : is.Nodup) (hln : N0.length = is.length) (hK : RoL T.heap N0 K0) (hfr : rm.frames + 1 ≤ R.frames) (hlo : (rest.map fun v => v.category).sum + (maxC + 11) + rm.locals ≤ R.locals) (hcl : cells + rm.cells ≤ R.cells) (hsl : slots + rm.slots ≤ R.slots)
    (k : ∀ (T' : State) (v : Option Value) (L1 M1 : HL), Rel v L1 M1 → (∀ x ∈ M1, RoN Z EL s.vm h0 x.1) → St p l e R s m args below meth c Z EL h0 L0 T' (puts L is (L1.take N0.length) ++ L1.drop N0.length) (M ++ M1) (cells + rm.cells) (slots + rm.slots) → Go p e below Q (T'.setTop (mkF m pc' Ls (v.toList ++ rest)))) : Go p e below Q (T.setTop (mkF m pc Ls stk)) := by
  subst hp hst
  obtain ⟨a1, hEL⟩ := C.2.2.2.2.2.2.2.2
  obtain ⟨locs, vm0, X, hS, hC, N, O, Kp, G, q⟩ := S
  have hZ : Z.Warmed39 vm0 := State.Warmed39.trans C.2.2.2.2.2.2.1 hS.1
  have hown : vm0.findClass own = some m.cls := by rw [hS.1.alike.findClass]; exact C.2.2.2.1
  have G0 : Good (fun a => Z.heap.size ≤ a ∧ Safe Z EL vm0 T.heap a) T.heap N0 := hpk ▸ (G.pick his).mono fun x _ z => ⟨z.1, z.2.2⟩
  obtain ⟨v, _, ⟨T', L', k', n'⟩, -, X', hS', hg, ⟨Lc, hQ, l1, y1, z1⟩, stp⟩ := X.interfaceBackS C.1 (xi := y) (y := z) hown (mvT hZ w1) (mvT hZ w2) (mvT hZ wf hfa) (mvT hZ ws) (mvT hZ wi) (mvT hZ wp) (mvT hZ wu) (mvT hZ wc) hy (backX (W := (rest.map fun v => v.category).sum) (H [] T.heap vm0 O G0 hK ⟨a1, hEL⟩) hZ w4 w3 hfr hlo hEL hC.1) (isOf (s := s.setVm vm0) (T := T) hZ rfl E).choose_spec.choose_spec.1 (isOf (s := s.setVm vm0) (T := T) hZ rfl E).choose_spec.choose_spec.2.1 (isOf (s := s.setVm vm0) (T := T) hZ rfl E).choose_spec.choose_spec.2.2 (g := mkF m pc Ls (argsL.reverse ++ .ref a :: rest)) rfl (hz.trans C.2.2.1.symm) (Steps.refl _) (argsL := argsL) (rest := rest) (lenOf hpd hlen) rfl (by show 2 * 0 + _ ≤ _; omega) (C.hd hd) (fun _ _ => ⟨has, rfl, hcl, hsl⟩)
  dsimp only [Pt.U, Pt.locs, Pt.cells, Pt.slots] at X' l1 y1 z1 stp hQ hS' hg
  subst l1 y1 z1
  obtain ⟨L1, M1, hr, hn, S'⟩ := back_fin hS hC N Kp G q hpk hln X' hS' hg hQ
  exact Go.trans stp (k T' v L1 M1 hr hn S')
abbrev litObj (Z : State) (b : Addr) : Cell → Prop := Obj Z "java/lang/String" [("java/lang/String", "coder", "B", .int 0), ("java/lang/String", "value", "[B", .ref b)]
theorem lit_obj {h : Heap} {a b : Addr} (E : Exa Z h a "java/lang/String") (F1 : Fld Z h a "java/lang/String" "coder" "B" (.int 0)) (F2 : Fld Z h a "java/lang/String" "value" "[B" (.ref b)) (l1 : (Jvm.Cond.laysFinal "java/lang/String" "java/lang/String" "coder" "B").before a0 Z = true) (l2 : (Jvm.Cond.laysFinal "java/lang/String" "java/lang/String" "value" "[B").before a0 Z = true) : Live h (a, litObj Z b) := by
  obtain ⟨cl, k, h1, h2, h3, h4, h5⟩ := E
  obtain ⟨c1, cf, k1, i1, f1, a1, a2, a3, a4, a5, a6, a7⟩ := F1
  obtain ⟨c2, cf2, k2, i2, f2, b1, b2, b3, b4, b5, b6, b7⟩ := F2
  cases h1.symm.trans a1
  cases h1.symm.trans b1
  refine ⟨cl, h1, ⟨h2, ⟨k, h3, h5⟩, h4, a4⟩, faS ⟨cf, k1, i1, f1, a2, a3, a6, a7⟩ (faS ⟨cf2, k2, i2, f2, b2, b3, b6, b7⟩ fa0), ?_⟩
  refine List.nodup_cons.mpr ⟨fun q => ?_, List.nodup_cons.mpr ⟨List.not_mem_nil, List.nodup_nil⟩⟩
  exact slot_ne (Or.inr l1) (Or.inr l2) (by decide) (t := .byte) (t' := .array .byte) (by decide) (by decide) (List.mem_singleton.mp q)
theorem Cx.ldcStr (C : Cx p s m meth c Z EL own bytes maxl ret nm) (S : St p l e R s m args below meth c Z EL h0 L0 T L M cells slots) {idx : Nat} {text : String} (w : (Jvm.Cond.stringLink own idx text).before a0 Z = true) (wS : ∀ a ∈ Bundle.stringAtoms, a.before a0 Z = true) (hmem : (own, idx) ∈ EL) (hd : decode bytes pc = .ok (.ldc idx, 2)) (pc' : Nat) (hp : pc + 2 = pc') (vs : List Value) (ht : (∀ c ∈ text.toList, c.toNat < 256) ∧ text.toList.map (fun c => Value.int (Jvm.Lit.byteI c.toNat.toUInt16)) = vs) (z : Int32) (hz : ¬ z < 0) (hl : z.toNatClampNeg = vs.length)
    (n : Nat) (hn : 4 * text.toList.length ≤ n) (hbig : n ≤ 536870912) (hc : cells + 2 ≤ R.cells) (hs : slots + (n + 4) ≤ R.slots)
    (k : ∀ (T' : State) (a b : Addr), RoN Z EL s.vm h0 a → RoN Z EL s.vm h0 b → St p l e R s m args below meth c Z EL h0 L0 T' L (M ++ [(a, litObj Z b), (b, Ary Z .byte vs)]) (cells + 2) (slots + (n + 4)) → Go p e below Q (T'.setTop (mkF m pc' Ls (.ref a :: st)))) : Go p e below Q (T.setTop (mkF m pc Ls st)) := by
  subst hp
  obtain ⟨a1, hEL⟩ := C.2.2.2.2.2.2.2.2
  have C4 := C.2.2.2.1
  have C7 := C.2.2.2.2.2.2.1
  obtain ⟨locs, vm0, X, hS, hC, N, O, Kp, G, q⟩ := S
  have hZ : Z.Warmed39 vm0 := State.Warmed39.trans C7 hS.1
  have hown : vm0.findClass own = some m.cls := by rw [hS.1.alike.findClass]; exact C4
  obtain ⟨hm1, hm2⟩ : (∀ p ∈ EL, ∃ text : String, (Jvm.Cond.stringLink p.1 p.2 text).before a0 Z = true ∧ ∀ c ∈ text.toList, c.toNat < 256) ∧ True := ⟨fun p hp => by
    obtain ⟨t, h1, h2⟩ := hEL p hp
    exact ⟨t, (by have q := mvS (s := Z) (args := a0) (State.Warmed39.refl Z) h1; rwa [State.setVm_self] at q), h2⟩, trivial⟩
  obtain ⟨a, T', h', k1, b, kk, X', e', E, hS', hk1, hW', hf', x1, x2, x3, x4, x5, x6, hC', -, hne, stp⟩ := ldcCH X C.1 hZ hown w wS rfl hS (Nat.le_refl _) (show EW Z a0 EL from hm1) hmem hC.1 ht hz hl (g := mkF m pc Ls st) rfl (C.hd hd) hn hbig hc hs
  subst e'
  have hCC := hC.trans hC'
  have nsafe : ∀ x, (∀ y, Safe Z EL T'.vm T'.heap y → y ≠ x) → RoN Z EL s.vm h0 x := fun x hx => by
    have hb : Bk Z EL T'.vm T'.heap x := Classical.byContradiction fun nb => hx x nb rfl
    exact (hCC.2.2 x hb)
  have ra := nsafe a fun y hy => (hne y hy).1
  have rb := nsafe b fun y hy => (hne y hy).2
  refine Go.step stp (k T' a b ra rb ⟨locs, T'.vm, X', ⟨hS'.1, fun j p hj hp => by obtain ⟨u, v⟩ := hS'.2 j p hj hp; exact ⟨u, Nat.lt_of_lt_of_le v hk1⟩⟩, hCC, N, O.ext E, Kp.ext E, ?_, ?_⟩)
  · refine (G.ext E).mono fun x hx z => ⟨z.1, z.2.1, hC'.safe (G.lt (mem_adr hx)) z.2.2⟩
  · have hsafe : ∀ x ∈ adr L, Safe Z EL T'.vm T'.heap x := fun x hx => by
      obtain ⟨y, hy, e⟩ := List.mem_map.mp hx
      have := G.2 y hy
      rw [e] at this
      exact hC'.safe (G.lt hx) this.1.2.2
    intro x hx
    rcases List.mem_append.mp hx with hx | hx
    · exact (q.ext E) x hx
    · refine (faS (P := fun x => Live T'.heap x ∧ x.1 ∉ adr L) ⟨lit_obj x1 x2 x3 (wS _ (by simp [Bundle.stringAtoms, Bundle.sN])) (wS _ (by simp [Bundle.stringAtoms, Bundle.sN])), fun z => (hne _ (hsafe _ z)).1 rfl⟩ (faS ⟨arv_ary x4 hl, fun z => (hne _ (hsafe _ z)).2 rfl⟩ fa0)) x hx

theorem rng {d : Value} (vs : List Value) (ns k : Nat) (h : ns + k ≤ vs.length) : (List.range k).map (fun i => vs.getD (ns + i) d) = (vs.drop ns).take k := by
  apply List.ext_getElem
  · simp; omega
  · intro i h1 h2
    have hk : i < k := by simpa using h1
    simp [List.getD_eq_getElem?_getD, List.getElem?_eq_getElem (show ns + i < vs.length by omega)]
def AryX (Z : State) (ad : String) (ty : FieldType) (vs : List Value) (c : Cell) : Prop := Ary Z ty vs c ∧ Z.vm.findClass ad = some c.cls
theorem aryx_exa {h : Heap} {a : Addr} {ad : String} {ty : FieldType} {vs : List Value} (q : ∃ c, h[a]? = some c ∧ AryX Z ad ty vs c) : Exa Z h a ad := by
  obtain ⟨c, h1, ⟨⟨⟨o, k, hk, comp, hkk⟩, -⟩, -⟩, h3⟩ := q
  exact ⟨c, k, h1, h3, hk, by cases hv : c.vm <;> simp_all [VmData.isStatics], fun q => by rw [hkk] at q; cases q⟩
theorem Cx.newarrayX (C : Cx p s m meth c Z EL own bytes maxl ret nm) (S : St p l e R s m args below meth c Z EL h0 L0 T L M cells slots) {aty : ArrayType} {n : Int32} {ad : String} (had : "[" ++ (newarray.typeOf aty).toString = ad) (w : (Jvm.Cond.arrayClass (newarray.typeOf aty)).before a0 Z = true) (hd : decode bytes pc = .ok (.newarray aty, 2)) (pc' : Nat) (hp : pc + 2 = pc') (hn : ¬ n < 0) (N : Nat) (hN : n.toNatClampNeg = N) (cap : Nat) (hcap : N ≤ cap) (hb : cap * 8 ≤ 536870912)
    (hc : cells + 1 ≤ R.cells) (hs : slots + cap ≤ R.slots) (k : ∀ T' b, St p l e R s m args below meth c Z EL h0 L0 T' (L ++ [(b, AryX Z ad (newarray.typeOf aty) (List.replicate N (defaultValue (newarray.typeOf aty))))]) M (cells + 1) (slots + cap) → Go p e below Q (T'.setTop (mkF m pc' Ls (.ref b :: st)))) : Go p e below Q (T.setTop (mkF m pc Ls (.int n :: st))) := by
  subst hp hN
  obtain ⟨s', locs, X, hZ, hown, ksame, kext, kwr⟩ := S.opn C
  obtain ⟨T', h', cA, X', e', E, A, Ex, stp⟩ := newPE X C.1 hZ w rfl (g := mkF m pc Ls (.int n :: st)) rfl (C.hd hd) rfl hn hcap hb hc hs had
  obtain ⟨c3, k3, q1, q2, q3, q4, q5⟩ := id Ex
  cases q1.symm.trans A.1
  exact Go.step stp (k T' T.heap.size (kext T' h' _ _ _ X' e' E ⟨_, A.1, ary_new A, q2⟩))
theorem Cx.arraycopy (C : Cx p s m meth c Z EL own bytes maxl ret nm) (S : St p l e R s m args below meth c Z EL h0 L0 T L M cells slots) {idx : Nat} {a b : Addr} {sp dp nn : Int32} {ty : FieldType} {vs vd : List Value} (w1 : (Jvm.Cond.methodLink own idx Jvm.Stand.acN).before a0 Z = true) (w2 : (Jvm.Cond.native Jvm.Stand.acN).before a0 Z = true) (w3 : (Jvm.Cond.static Jvm.Stand.acN).before a0 Z = true) (w4 : (Jvm.Cond.initialized "java/lang/System").before a0 Z = true) (A : ∃ cl, T.heap[a]? = some cl ∧ Ary Z ty vs cl) (i : Nat) (hi : nth L i = some (b, Ary Z ty vd)) (hty : refKind ty = false)
    (h1 : ¬ sp < 0) (h2 : ¬ dp < 0) (h3 : ¬ nn < 0) (ns nd n : Nat) (e1 : sp.toNatClampNeg = ns) (e2 : dp.toNatClampNeg = nd) (e3 : nn.toNatClampNeg = n) (hs1 : vs.length < 2 ^ 31) (hs2 : vd.length < 2 ^ 31) (h4 : ns + n ≤ vs.length) (h5 : nd + n ≤ vd.length) (res : List Value) (hres : vd.take nd ++ (vs.drop ns).take n ++ vd.drop (nd + n) = res)
    (hd : decode bytes pc = .ok (.invokestatic idx, 3)) (pc' : Nat) (hp : pc + 3 = pc') (hz : Ls.size = maxl) (hf : 1 ≤ R.frames) (hlo : (st.map fun v => v.category).sum + (nativeFrameWords "java/lang/System" "arraycopy" 5 + 11) ≤ R.locals)
    (k : ∀ T', St p l e R s m args below meth c Z EL h0 L0 T' (upd L i (b, Ary Z ty res)) M cells slots → Go p e below Q (T'.setTop (mkF m pc' Ls st))) : Go p e below Q (T.setTop (mkF m pc Ls (.int nn :: .int dp :: .ref b :: .int sp :: .ref a :: st))) := by
  subst hp e1 e2 e3
  have C4 := C.2.2.2.1
  have C7 := C.2.2.2.2.2.2.1
  obtain ⟨cl, g1, A⟩ := A
  obtain ⟨cb, g2, B⟩ := S.at i hi
  obtain ⟨locs, vm0, X, hS, hC, N, O, Kp, G, q⟩ := S
  have hZ : Z.Warmed39 vm0 := State.Warmed39.trans C7 hS.1
  have hown : vm0.findClass own = some m.cls := by rw [hS.1.alike.findClass]; exact C4
  obtain ⟨b1, b2, b3⟩ := G.base hi
  obtain ⟨T', h', L', X', e', N', K, F, stp⟩ := cpA X C.1 hZ hown w1 w2 w3 w4 rfl (ary_arv g1 A hs1) (ary_arv g2 B hs2) (Or.inl ⟨rfl, hty⟩) h1 h2 h3 (by rw [ofn_nat hs1]; exact h4) (by rw [ofn_nat hs2]; exact h5) (us := (vs.drop sp.toNatClampNeg).take nn.toNatClampNeg) (rng vs _ _ h4).symm h5 N b1 (g := mkF m pc Ls (.int nn :: .int dp :: .ref b :: .int sp :: .ref a :: st)) rfl (hz.trans C.2.2.1.symm) rfl (C.hd hd) hf (W := (st.map fun v => v.category).sum) (by show 2 * 0 + _ ≤ _; omega) hlo
  subst e'
  have q2 : ∀ (x : Addr) (c : Cell), x ≠ b → T.heap[x]? = some c → T'.heap[x]? = some c := fun x c hx hq => K.2.1 x c hq fun hm => hx (List.mem_singleton.mp hm)
  have q1 : Live T'.heap (b, Ary Z ty res) := arv_ary (hres ▸ F) (by rw [ofn_nat hs2, ← hres]; simp only [List.length_append, List.length_take, List.length_drop]; omega)
  have hsb : ∀ x ∈ [b], Safe Z EL vm0 T.heap x := faS b3 fa0
  refine Go.step stp (k T' ⟨L', vm0, X', ⟨hS.1, fun j p hj hp => by obtain ⟨x, y⟩ := hS.2 j p hj hp; exact ⟨x, Nat.lt_of_lt_of_le y K.1⟩⟩, hC.trans (CHr.keep K hsb hC.1), N', O.keep K (faS b1 fa0), Kp.trans K (faS b2 fa0), ?_, q.wr hi q2⟩)
  exact (G.set hi q2 q1).mono fun x _ z => ⟨z.1, z.2.1, Safe.keep K hsb hC.1 z.2.2⟩
theorem Cx.arraycopyX (C : Cx p s m meth c Z EL own bytes maxl ret nm) (S : St p l e R s m args below meth c Z EL h0 L0 T L M cells slots) {idx : Nat} {a b : Addr} {sp dp nn : Int32} {ty : FieldType} {ad : String} {vs vd : List Value} (w1 : (Jvm.Cond.methodLink own idx Jvm.Stand.acN).before a0 Z = true) (w2 : (Jvm.Cond.native Jvm.Stand.acN).before a0 Z = true) (w3 : (Jvm.Cond.static Jvm.Stand.acN).before a0 Z = true) (w4 : (Jvm.Cond.initialized "java/lang/System").before a0 Z = true) (A : ∃ cl, T.heap[a]? = some cl ∧ Ary Z ty vs cl) (i : Nat) (hi : nth L i = some (b, AryX Z ad ty vd)) (hty : refKind ty = false)
    (h1 : ¬ sp < 0) (h2 : ¬ dp < 0) (h3 : ¬ nn < 0) (ns nd n : Nat) (e1 : sp.toNatClampNeg = ns) (e2 : dp.toNatClampNeg = nd) (e3 : nn.toNatClampNeg = n) (hs1 : vs.length < 2 ^ 31) (hs2 : vd.length < 2 ^ 31) (h4 : ns + n ≤ vs.length) (h5 : nd + n ≤ vd.length) (res : List Value) (hres : vd.take nd ++ (vs.drop ns).take n ++ vd.drop (nd + n) = res)
    (hd : decode bytes pc = .ok (.invokestatic idx, 3)) (pc' : Nat) (hp : pc + 3 = pc') (hz : Ls.size = maxl) (hf : 1 ≤ R.frames) (hlo : (st.map fun v => v.category).sum + (nativeFrameWords "java/lang/System" "arraycopy" 5 + 11) ≤ R.locals)
    (k : ∀ T', St p l e R s m args below meth c Z EL h0 L0 T' (upd L i (b, AryX Z ad ty res)) M cells slots → Go p e below Q (T'.setTop (mkF m pc' Ls st))) : Go p e below Q (T.setTop (mkF m pc Ls (.int nn :: .int dp :: .ref b :: .int sp :: .ref a :: st))) := by
  subst hp e1 e2 e3
  have C4 := C.2.2.2.1
  have C7 := C.2.2.2.2.2.2.1
  obtain ⟨cl, g1, A⟩ := A
  obtain ⟨cb, g2, B, Bc⟩ := S.at i hi
  obtain ⟨locs, vm0, X, hS, hC, N, O, Kp, G, q⟩ := S
  have hZ : Z.Warmed39 vm0 := State.Warmed39.trans C7 hS.1
  have hown : vm0.findClass own = some m.cls := by rw [hS.1.alike.findClass]; exact C4
  obtain ⟨b1, b2, b3⟩ := G.base hi
  obtain ⟨T', h', L', X', e', N', K, F, stp⟩ := cpA X C.1 hZ hown w1 w2 w3 w4 rfl (ary_arv g1 A hs1) (ary_arv g2 B hs2) (Or.inl ⟨rfl, hty⟩) h1 h2 h3 (by rw [ofn_nat hs1]; exact h4) (by rw [ofn_nat hs2]; exact h5) (us := (vs.drop sp.toNatClampNeg).take nn.toNatClampNeg) (rng vs _ _ h4).symm h5 N b1 (g := mkF m pc Ls (.int nn :: .int dp :: .ref b :: .int sp :: .ref a :: st)) rfl (hz.trans C.2.2.1.symm) rfl (C.hd hd) hf (W := (st.map fun v => v.category).sum) (by show 2 * 0 + _ ≤ _; omega) hlo
  subst e'
  have q2 : ∀ (x : Addr) (c : Cell), x ≠ b → T.heap[x]? = some c → T'.heap[x]? = some c := fun x c hx hq => K.2.1 x c hq fun hm => hx (List.mem_singleton.mp hm)
  have q0 : Live T'.heap (b, Ary Z ty res) := arv_ary (hres ▸ F) (by rw [ofn_nat hs2, ← hres]; simp only [List.length_append, List.length_take, List.length_drop]; omega)
  have q1 : Live T'.heap (b, AryX Z ad ty res) := by
    obtain ⟨c1, u1, u2⟩ := q0
    obtain ⟨c2, v1, v2, -⟩ := F
    cases (show T'.heap[b]? = some c1 from u1).symm.trans v1.1
    exact ⟨c1, u1, u2, by rw [v2]; exact Bc⟩
  have hsb : ∀ x ∈ [b], Safe Z EL vm0 T.heap x := faS b3 fa0
  refine Go.step stp (k T' ⟨L', vm0, X', ⟨hS.1, fun j p hj hp => by obtain ⟨x, y⟩ := hS.2 j p hj hp; exact ⟨x, Nat.lt_of_lt_of_le y K.1⟩⟩, hC.trans (CHr.keep K hsb hC.1), N', O.keep K (faS b1 fa0), Kp.trans K (faS b2 fa0), ?_, q.wr hi q2⟩)
  exact (G.set hi q2 q1).mono fun x _ z => ⟨z.1, z.2.1, Safe.keep K hsb hC.1 z.2.2⟩
theorem St.roP (S : St p l e R s m args below meth c Z EL h0 L0 T L M cells slots) {is js : List Nat} {N0 K0 : HL} (hpk : OwnK.pick L is = N0) (hpm : OwnK.pick M js = K0) : RoL T.heap N0 K0 := by
  obtain ⟨_, _, -, -, -, -, -, -, -, q⟩ := S
  exact ro_pick q hpk hpm
theorem refF {locs : List Loc} (X : Stand p l e R s m args below meth c T locs cells slots) (hZ : Z.Warmed39 s.vm) {O n d : String} {index : Nat} (hown : s.vm.findClass own = some m.cls) (w : (Jvm.Cond.fieldRef own index O n d).before a0 Z = true) {cf i : Nat} {k : Class} {f : Field} (h2 : Z.fieldFound? O n d = some (cf, k, i, f)) : T.vm.fieldReady m.cls index cf f := by
  have hZT : Z.Warmed39 T.vm := wtrans hZ X.warmed
  have w2 := Cond.fieldRef_warmed39 hZT w
  have hcur : (Z.setVm T.vm).vm.findClass own = some m.cls := by
    show T.vm.findClass own = some m.cls
    rw [X.warmed.alike.findClass]; exact hown
  obtain ⟨c', k', i', f', g1, g2⟩ := Cond.fieldRef_spec hcur w2
  obtain ⟨k'', hi, -⟩ := State.fieldFound?_setVm (s := Z) hZT.alike h2
  cases g1.symm.trans hi
  exact g2
theorem getFR {locs : List Loc} {h : Heap} (X : Stand p l e R s m args below meth c T locs cells slots) (hx : p.tables.exec = Jvm.exec) (hZ : Z.Warmed39 s.vm) {O n d : String} {index : Nat} (hown : s.vm.findClass own = some m.cls) (w : (Jvm.Cond.fieldRef own index O n d).before a0 Z = true) (eT : T.heap = h) {a : Addr} {v : Value} (F : Fld Z h a O n d v)
    {g : JFrame} (hg : g.method = m) {rest : List Value} (hs : g.stack = .ref a :: rest) (hd : decode c.code g.pc = .ok (.getfield index, 3)) : ∀ target, Steps p.tables e below (T.setTop { g with pc := g.pc + 3, stack := v :: rest }) target → Steps p.tables e below (T.setTop g) target := by
  obtain ⟨cell, cf, k, i, f, h1, h2, h3, h4, -, -, h7⟩ := F
  have hr := refF X hZ hown w h2
  intro target hrest
  subst hg
  jvm_step X.here [hx, hd, getfield.wp_ready (e := e) (s := T) (f := g) X.here.top hr h3 hs (by rw [eT]; exact h1) h4 h7]
  exact hrest
theorem putFR {locs : List Loc} {h : Heap} (X : Stand p l e R s m args below meth c T locs cells slots) (hx : p.tables.exec = Jvm.exec) (hZ : Z.Warmed39 s.vm) {O n d K : String} {index kk : Nat} {ty : FieldType} (hown : s.vm.findClass own = some m.cls) (w : (Jvm.Cond.fieldRef own index O n d).before a0 Z = true)
    (eT : T.heap = h) {a : Addr} {v old : Value} (F : Fld Z h a O n d old) (E : Exa Z h a K) (L : (Jvm.Cond.lays K O n d).before a0 Z = true) (wi : (Jvm.Cond.instantiable K kk).before a0 Z = true)
    (hty : parseFieldDescriptor d = some ty) (hn : narrow ty v = v) (hf : fits ty v = true) {g : JFrame} (hg : g.method = m) {rest : List Value} (hs : g.stack = v :: .ref a :: rest) (hd : decode c.code g.pc = .ok (.putfield index, 3)) :
    ∃ T' h', Stand p l e R s m args below meth c T' (locs ++ [⟨a, RoadKit.slotOf Z O n d⟩]) cells slots ∧ T'.heap = h' ∧ Wr h h' a (RoadKit.slotOf Z O n d) v ∧ ∀ target, Steps p.tables e below (T'.setTop { g with pc := g.pc + 3, stack := rest }) target → Steps p.tables e below (T.setTop g) target := by
  obtain ⟨cell, cf, k, i, f, h1, h2, h3, h4, h5, -, h7⟩ := F
  have hr := refF X hZ hown w h2
  obtain ⟨cell', kc, e1, e2, e3, -⟩ := E
  cases h1.symm.trans e1
  obtain ⟨c1, k1, cf1, kf1, i1, f1, a1, a2, a3, -, -, a6, -⟩ := Laid.spec (Or.inl L)
  cases h2.symm.trans a3
  cases e2.symm.trans a1
  obtain ⟨_, _, _, _, _, _, -, -, b3, -, a5, -⟩ := Cond.lays_spec L
  cases h2.symm.trans b3
  obtain ⟨c2, k2, i1, i2, i3, -⟩ := Cond.instantiable_spec wi
  cases e2.symm.trans i1
  cases a2.symm.trans i2
  have ht := (State.fieldFound?_type h2 hty).2
  have hfit : Z.fitsSlot cell.cls cell.vm f.slot v = true := by
    have q : Z.slotType? cell.cls cell.vm f.slot = some ty := by
      simp only [State.slotType?, a2, Option.bind_eq_bind, Option.bind_some, i3]
      cases hq : cell.vm <;> first | (rw [hq] at h5; exact Bool.noConfusion h5) | (rw [a6, ht])
    simp [State.fitsSlot, q, hf]
  have hZT : Z.Warmed39 T.vm := wtrans hZ X.warmed
  have hfitT : T.fitsSlot cell.cls cell.vm f.slot v = true := by
    rw [← State.fitsSlot_setVm hZT.alike] at hfit; exact hfit
  have hlt := (Array.getElem?_eq_some_iff.mp h7).1
  have es : RoadKit.slotOf Z O n d = f.slot := by simp [RoadKit.slotOf, h2]
  rw [es]
  obtain ⟨X', st⟩ := X.putfieldReady hx hr h3 (Or.inl a5) (by rw [eT]; exact h1) h4 hlt (by rw [ht]; exact hn) hfitT hg hs hd
  exact ⟨_, _, X', rfl, ⟨cell, h1, h5, hlt, by rw [← eT]; rfl⟩, st⟩
theorem Cx.getfieldR (C : Cx p s m meth c Z EL own bytes maxl ret nm) (S : St p l e R s m args below meth c Z EL h0 L0 T L M cells slots) {idx : Nat} {O n d : String} {a : Addr} {v : Value} (w : (Jvm.Cond.fieldRef own idx O n d).before a0 Z = true) (hd : decode bytes pc = .ok (.getfield idx, 3)) (F : Fld Z T.heap a O n d v) (pc' : Nat) (hp : pc + 3 = pc')
    (k : Go p e below Q (T.setTop (mkF m pc' Ls (v :: st)))) : Go p e below Q (T.setTop (mkF m pc Ls (.ref a :: st))) := by
  subst hp
  obtain ⟨s', locs, X, hZ, hown, ksame, kext, kwr⟩ := S.opn C
  exact Go.step (getFR X C.1 hZ hown w rfl F (g := mkF m pc Ls (.ref a :: st)) rfl rfl (C.hd hd)) k
theorem Cx.putfieldR (C : Cx p s m meth c Z EL own bytes maxl ret nm) (S : St p l e R s m args below meth c Z EL h0 L0 T L M cells slots) {idx : Nat} {O n d K : String} {kk : Nat} {a : Addr} {v old : Value} {fs : List FV} {ty : FieldType} (w : (Jvm.Cond.fieldRef own idx O n d).before a0 Z = true) (hd : decode bytes pc = .ok (.putfield idx, 3)) (i : Nat) (hi : nth L i = some (a, Obj Z K fs)) (j : Nat) (hj : nth fs j = some (O, n, d, old))
    (lw : (Jvm.Cond.lays K O n d).before a0 Z = true) (wi : (Jvm.Cond.instantiable K kk).before a0 Z = true) (hty : parseFieldDescriptor d = some ty) (hn : narrow ty v = v) (hf : fits ty v = true) (pc' : Nat) (hp : pc + 3 = pc')
    (k : ∀ T', St p l e R s m args below meth c Z EL h0 L0 T' (upd L i (a, Obj Z K (upd fs j (O, n, d, v)))) M cells slots → Go p e below Q (T'.setTop (mkF m pc' Ls st))) : Go p e below Q (T.setTop (mkF m pc Ls (v :: .ref a :: st))) := by
  subst hp
  have F := S.fld i hi j hj
  have E := S.exa i hi
  obtain ⟨s', locs, X, hZ, hown, ksame, kext, kwr⟩ := S.opn C
  obtain ⟨T', h', X', e', W, stp⟩ := putFR X C.1 hZ hown w rfl F E lw wi hty hn hf (g := mkF m pc Ls (v :: .ref a :: st)) rfl rfl (C.hd hd)
  exact Go.step stp (k T' (kwr T' h' i a _ _ _ _ hi X' e' W fun c _ P hs => P.put hj hs))
theorem specialBackR {locs : List Loc} (X : Stand p l e R s m args below meth c T locs cells slots) (hexec : p.tables.exec = Jvm.exec) {index : Nat} {y : MethodName} (hy1 : y.name = "<init>")
    (hown : s.vm.findClass own = some m.cls) (hZ : Z.Warmed39 s.vm) (w : (Jvm.Cond.methodRef own index y).before a0 Z = true) (hinst : (Jvm.Cond.instanceMethod y).before args s = true)
    {bts : ByteArray} {maxL : Nat} (hcode : (Jvm.Cond.code y bts maxL none).before args s = true) (hy : y.cls ≠ "java/lang/invoke/MethodHandle" ∧ y.cls ≠ "java/lang/invoke/VarHandle")
    {W : Nat} {Pre : Pt → Array Value → Prop} {Post : Pt → Array Value → Option Value → Pt → Prop} (hK : BackS l R p e below s args y 3 W Pre Post)
    {g : JFrame} (hg : g.method = m) (hsize : g.locals.size = c.maxLocals) {s₀ : State} (hcome : Steps p.tables e below s₀ (T.setTop g)) {a : Addr} {argsL rest : List Value}
    (hlen : ∀ sig, parseMethodDescriptor y.desc = some sig → argsL.length = sig.parameters.length) (hstack : g.stack = argsL.reverse ++ .ref a :: rest) (hW : 2 * g.monitorRoom + (rest.map fun v => v.category).sum ≤ W)
    (hdg : decode c.code g.pc = .ok (.invokespecial index, 3)) (hpre : ∀ vm₁, s.WarmedH vm₁ → Pre ⟨T.setVm vm₁, locs, cells, slots⟩ (.ref a :: argsL).toArray) :
    ∃ (v : Option Value) (vm₁ : Vm) (B : Pt), s.WarmedH vm₁ ∧ Stand p l e R (s.setVm B.U.vm) m args below meth c B.U B.locs B.cells B.slots ∧ s.Since B.U.vm B.U.heap.size ∧ T.heap.size ≤ B.U.heap.size ∧ Post ⟨T.setVm vm₁, locs, cells, slots⟩ (.ref a :: argsL).toArray v B ∧
      Steps p.tables e below s₀ (B.U.setTop { g with pc := g.pc + 3, stack := v.toList ++ rest }) := by
  obtain ⟨obj, methO, hnO, hmO, hstO, habO⟩ := Cond.instanceMethod_spec hinst
  obtain ⟨methO', cO, hmO', hcO, hbO, hlO, -, hlockO, -, hsigO⟩ := Cond.code_spec hnO hcode
  cases hmO.symm.trans hmO'
  obtain ⟨kO, hkO, hnameO⟩ := className_of_methodNamed hnO
  obtain ⟨hnameMO, hdescO⟩ := name_of_methodNamed hnO hmO
  have hZT : Z.Warmed39 T.vm := wtrans hZ X.warmed
  have e1 : Z.methodNamed? y = some obj := by rw [← State.methodNamed?_setVm hZ.alike y]; exact hnO
  have e2 : (Z.setVm T.vm).methodNamed? y = some obj := by rw [State.methodNamed?_setVm hZT.alike]; exact e1
  have w2 := Cond.methodRef_warmed39 hZT e1 hy w
  have hcur : (Z.setVm T.vm).vm.findClass own = some m.cls := by
    show T.vm.findClass own = some m.cls
    rw [X.warmed.alike.findClass]; exact hown
  obtain ⟨m1, c', hm1, hready, hfind, hnr⟩ := Cond.methodRef_named e hcur w2
  cases hm1.symm.trans (State.methodFound?_of_named e2 hy)
  cases hfind.symm.trans (findClass_of_methodNamed e2)
  obtain ⟨kO₂, hkO₂, heO₂⟩ := X.warmed.alike.2.2 _ _ hkO
  have hmO₂ : T.vm.method? obj = some methO := by rw [X.warmed.alike.method?]; exact hmO
  have hfound : lookupSpecial T.vm obj.cls "<init>" methO.desc = .method obj := by
    rw [X.warmed.alike.lookupSpecial, hdescO, ← hy1]; exact lookupSpecial_of_named hnO hmO hstO
  have hstep : ∀ target, (∀ acts, Steps p.tables e below (doInvoke e ((T.setVm T.vm).setTop { g with stack := rest }) acts obj (.ref a :: argsL).toArray).1 target) → Steps p.tables e below (T.setTop g) target := by
    intro target hrest
    subst hg
    jvm_step X.here [hexec, hdg, invokespecial.wp_init (e := e) (s := T) (k := kO₂) (meth := methO) (m := obj) (a := a) (args := argsL) (rest := rest) (f := g) X.here.top hnr hready hkO₂ hmO₂ (by rw [hnameMO]; exact hy1) hstO habO hfound (hlen _ hsigO) hstack]
    exact hrest
  have X₁ : Stand p l e R s m args below meth c (T.setVm T.vm) locs cells slots := X
  obtain ⟨v, B, X', hS, hgr, hpost, hsteps⟩ := hK m meth c ⟨T.setVm T.vm, locs, cells, slots⟩ { g with stack := rest } (.invokespecial index) obj (.ref a :: argsL).toArray X₁ hg hsize hdg hW (X₁.named hnO) (hpre T.vm X.warmed)
  exact ⟨v, T.vm, B, X.warmed, X', hS, hgr, hpost, (hcome.trans (hstep _ fun acts => by rw [doInvoke_state]; exact Steps.refl _)).trans hsteps⟩
theorem privBack2 {locs : List Loc} (X : Stand p l e R s m args below meth c T locs cells slots) (hexec : p.tables.exec = Jvm.exec) {index : Nat} {y y' : MethodName} {KS : String} {bts : ByteArray} {maxL : Nat} {rtt : Option FieldType}
    (hown : s.vm.findClass own = some m.cls) (hlink : (Jvm.Cond.methodLink own index y).before args s = true) (hinst : (Jvm.Cond.instanceMethod y).before args s = true) (hcc : y'.cls = y.cls) (hsi : (Jvm.Cond.instanceMethod y').before args s = true) (hss : (Jvm.Cond.selects KS y' y').before args s = true)
    (hpriv : s.PrivateAt y) (hcode : (Jvm.Cond.code y bts maxL rtt).before args s = true) (hy : y.cls ≠ "java/lang/invoke/MethodHandle" ∧ y.cls ≠ "java/lang/invoke/VarHandle")
    {W : Nat} {Pre : Pt → Array Value → Prop} {Post : Pt → Array Value → Option Value → Pt → Prop} (hK : BackS l R p e below s args y 3 W Pre Post)
    {g : JFrame} (hg : g.method = m) (hsize : g.locals.size = c.maxLocals) {s₀ : State} (hcome : Steps p.tables e below s₀ (T.setTop g)) {a : Addr} {cell : Cell} (hcell : T.heap[a]? = some cell) (hobj : ∀ q, cell.vm ≠ .statics q)
    {argsL rest : List Value} (hlen : ∀ sig, parseMethodDescriptor y.desc = some sig → argsL.length = sig.parameters.length)
    (hstack : g.stack = argsL.reverse ++ .ref a :: rest) (hW : 2 * g.monitorRoom + (rest.map fun v => v.category).sum ≤ W) (hdg : decode c.code g.pc = .ok (.invokevirtual index, 3))
    (hpre : ∀ vm₁, s.WarmedH vm₁ → Pre ⟨T.setVm vm₁, locs, cells, slots⟩ (.ref a :: argsL).toArray) :
    ∃ (v : Option Value) (vm₁ : Vm) (B : Pt), s.WarmedH vm₁ ∧ Stand p l e R (s.setVm B.U.vm) m args below meth c B.U B.locs B.cells B.slots ∧ s.Since B.U.vm B.U.heap.size ∧ T.heap.size ≤ B.U.heap.size ∧ Post ⟨T.setVm vm₁, locs, cells, slots⟩ (.ref a :: argsL).toArray v B ∧
      Steps p.tables e below s₀ (B.U.setTop { g with pc := g.pc + 3, stack := v.toList ++ rest }) := by
  obtain ⟨mk, methM, hnamed, hmethM, hstM, habM⟩ := Cond.instanceMethod_spec hinst
  obtain ⟨methM', cM, hmethM', -, -, -, -, -, -, hsigM⟩ := Cond.code_spec hnamed hcode
  cases hmethM.symm.trans hmethM'
  obtain ⟨kP, hkP, hkPi⟩ := nf_sib hcc hsi hss mk hnamed
  have hselP : selectMethod e.platform s.vm cell.cls mk = .method mk := selectMethod_private hmethM (hpriv mk methM hnamed hmethM)
  obtain ⟨vm₁, X₁, hstep₁⟩ := X.invokevirtual hexec hown hlink hnamed hmethM hstM hkP hkPi hy (a := a) (cell := cell) hcell hobj hselP hmethM habM hkP hkPi (g := g) hg (argsL := argsL) (rest := rest) (hlen _ hsigM) hstack hdg
  have hW₁ : s.WarmedH vm₁ := X₁.warmed
  obtain ⟨v, B, X', hS, hgr, hpost, hsteps⟩ := hK m meth c ⟨T.setVm vm₁, locs, cells, slots⟩ { g with stack := rest } (.invokevirtual index) mk (.ref a :: argsL).toArray X₁ hg hsize hdg hW (X₁.named hnamed) (hpre vm₁ hW₁)
  exact ⟨v, vm₁, B, hW₁, X', hS, hgr, hpost, (hcome.trans (hstep₁ _ fun acts => by rw [doInvoke_state]; exact Steps.refl _)).trans hsteps⟩
theorem Cx.callSpecialR (C : Cx p s m meth c Z EL own bytes maxl ret nm) (S : St p l e R s m args below meth c Z EL h0 L0 T L M cells slots) {N0 K0 : HL} {Rel : Option Value → HL → HL → Prop} {rm : Room} {as' : Array Value} {bytesC : ByteArray} {maxC : Nat} {idx : Nat} {y : MethodName} {a : Addr} (hy1 : y.name = "<init>") (w1 : (Jvm.Cond.methodRef own idx y).before a0 Z = true) (w2 : (Jvm.Cond.instanceMethod y).before a0 Z = true) (w3 : (Jvm.Cond.initialized y.cls).before a0 Z = true) (w4 : (Jvm.Cond.code y bytesC maxC none).before a0 Z = true) (hy : y.cls ≠ "java/lang/invoke/MethodHandle" ∧ y.cls ≠ "java/lang/invoke/VarHandle")
    (H : Con l Z EL y bytesC maxC none rm as' N0 K0 Rel) (hd : decode bytes pc = .ok (.invokespecial idx, 3)) (pc' : Nat) (hp : pc + 3 = pc') (hz : Ls.size = maxl) {ps : List FieldType} {rt : Option FieldType} (hpd : parseMethodDescriptor y.desc = some ⟨ps, rt⟩) {stk : List Value} (argsL rest : List Value) (hst : stk = argsL.reverse ++ .ref a :: rest) (hlen : argsL.length = ps.length) (has : (Value.ref a :: argsL).toArray = as')
    (is : List Nat) (hpk : OwnK.pick L is = N0) (his : is.Nodup) (hln : N0.length = is.length) (hK : RoL T.heap N0 K0) (hfr : rm.frames + 1 ≤ R.frames) (hlo : (rest.map fun v => v.category).sum + (maxC + 11) + rm.locals ≤ R.locals) (hcl : cells + rm.cells ≤ R.cells) (hsl : slots + rm.slots ≤ R.slots)
    (k : ∀ (T' : State) (v : Option Value) (L1 M1 : HL), Rel v L1 M1 → (∀ x ∈ M1, RoN Z EL s.vm h0 x.1) → St p l e R s m args below meth c Z EL h0 L0 T' (puts L is (L1.take N0.length) ++ L1.drop N0.length) (M ++ M1) (cells + rm.cells) (slots + rm.slots) → Go p e below Q (T'.setTop (mkF m pc' Ls (v.toList ++ rest)))) : Go p e below Q (T.setTop (mkF m pc Ls stk)) := by
  subst hp hst
  obtain ⟨a1, hEL⟩ := C.2.2.2.2.2.2.2.2
  obtain ⟨locs, vm0, X, hS, hC, N, O, Kp, G, q⟩ := S
  have hZ : Z.Warmed39 vm0 := State.Warmed39.trans C.2.2.2.2.2.2.1 hS.1
  have hown : vm0.findClass own = some m.cls := by rw [hS.1.alike.findClass]; exact C.2.2.2.1
  have G0 : Good (fun a => Z.heap.size ≤ a ∧ Safe Z EL vm0 T.heap a) T.heap N0 := hpk ▸ (G.pick his).mono fun x _ z => ⟨z.1, z.2.2⟩
  obtain ⟨v, _, ⟨T', L', k', n'⟩, -, X', hS', hg, ⟨Lc, hQ, l1, y1, z1⟩, stp⟩ := specialBackR X C.1 (y := y) hy1 hown hZ w1 (mvT hZ w2) (mvT hZ w4) hy (backX (W := (rest.map fun v => v.category).sum) (H [] T.heap vm0 O G0 hK ⟨a1, hEL⟩) hZ w4 w3 hfr hlo hEL hC.1) (g := mkF m pc Ls (argsL.reverse ++ .ref a :: rest)) rfl (hz.trans C.2.2.1.symm) (Steps.refl _) (a := a) (argsL := argsL) (rest := rest) (lenOf hpd hlen) rfl (by show 2 * 0 + _ ≤ _; omega) (C.hd hd) (fun _ _ => ⟨has, rfl, hcl, hsl⟩)
  dsimp only [Pt.U, Pt.locs, Pt.cells, Pt.slots] at X' l1 y1 z1 stp hQ hS' hg
  subst l1 y1 z1
  obtain ⟨L1, M1, hr, hn, S'⟩ := back_fin hS hC N Kp G q hpk hln X' hS' hg hQ
  exact Go.trans stp (k T' v L1 M1 hr hn S')
theorem Cx.callPrivate2 (C : Cx p s m meth c Z EL own bytes maxl ret nm) (S : St p l e R s m args below meth c Z EL h0 L0 T L M cells slots) {N0 K0 : HL} {Rel : Option Value → HL → HL → Prop} {rm : Room} {as' : Array Value} {bytesC : ByteArray} {maxC : Nat} {idx : Nat} {y y' : MethodName} {a : Addr} {K KS : String} {retC : Option FieldType} (E : Exa Z T.heap a K) (w1 : (Jvm.Cond.methodLink own idx y).before a0 Z = true) (wi : (Jvm.Cond.instanceMethod y).before a0 Z = true) (hcc : y'.cls = y.cls) (wsi : (Jvm.Cond.instanceMethod y').before a0 Z = true) (ws : (Jvm.Cond.selects KS y' y').before a0 Z = true) (wp : (Jvm.Cond.privateMethod y).before a0 Z = true) (w3 : (Jvm.Cond.initialized y.cls).before a0 Z = true) (w4 : (Jvm.Cond.code y bytesC maxC retC).before a0 Z = true) (hy : y.cls ≠ "java/lang/invoke/MethodHandle" ∧ y.cls ≠ "java/lang/invoke/VarHandle")
    (H : Con l Z EL y bytesC maxC retC rm as' N0 K0 Rel) (hd : decode bytes pc = .ok (.invokevirtual idx, 3)) (pc' : Nat) (hp : pc + 3 = pc') (hz : Ls.size = maxl) {ps : List FieldType} {rt : Option FieldType} (hpd : parseMethodDescriptor y.desc = some ⟨ps, rt⟩) {stk : List Value} (argsL rest : List Value) (hst : stk = argsL.reverse ++ .ref a :: rest) (hlen : argsL.length = ps.length) (has : (Value.ref a :: argsL).toArray = as')
    (is : List Nat) (hpk : OwnK.pick L is = N0) (his : is.Nodup) (hln : N0.length = is.length) (hK : RoL T.heap N0 K0) (hfr : rm.frames + 1 ≤ R.frames) (hlo : (rest.map fun v => v.category).sum + (maxC + 11) + rm.locals ≤ R.locals) (hcl : cells + rm.cells ≤ R.cells) (hsl : slots + rm.slots ≤ R.slots)
    (k : ∀ (T' : State) (v : Option Value) (L1 M1 : HL), Rel v L1 M1 → (∀ x ∈ M1, RoN Z EL s.vm h0 x.1) → St p l e R s m args below meth c Z EL h0 L0 T' (puts L is (L1.take N0.length) ++ L1.drop N0.length) (M ++ M1) (cells + rm.cells) (slots + rm.slots) → Go p e below Q (T'.setTop (mkF m pc' Ls (v.toList ++ rest)))) : Go p e below Q (T.setTop (mkF m pc Ls stk)) := by
  subst hp hst
  obtain ⟨a1, hEL⟩ := C.2.2.2.2.2.2.2.2
  obtain ⟨locs, vm0, X, hS, hC, N, O, Kp, G, q⟩ := S
  have hZ : Z.Warmed39 vm0 := State.Warmed39.trans C.2.2.2.2.2.2.1 hS.1
  have hown : vm0.findClass own = some m.cls := by rw [hS.1.alike.findClass]; exact C.2.2.2.1
  have G0 : Good (fun a => Z.heap.size ≤ a ∧ Safe Z EL vm0 T.heap a) T.heap N0 := hpk ▸ (G.pick his).mono fun x _ z => ⟨z.1, z.2.2⟩
  obtain ⟨v, _, ⟨T', L', k', n'⟩, -, X', hS', hg, ⟨Lc, hQ, l1, y1, z1⟩, stp⟩ := privBack2 X C.1 (y := y) hown (mvT hZ w1) (mvT hZ wi) hcc (mvT hZ wsi) (mvT hZ ws) (Cond.privateMethod_at (mvP (s := s.setVm vm0) hZ wp (args := #[]))) (mvT hZ w4) hy (backX (W := (rest.map fun v => v.category).sum) (H [] T.heap vm0 O G0 hK ⟨a1, hEL⟩) hZ w4 w3 hfr hlo hEL hC.1) (g := mkF m pc Ls (argsL.reverse ++ .ref a :: rest)) rfl (hz.trans C.2.2.1.symm) (Steps.refl _) (a := a) E.cell.choose_spec.1 E.cell.choose_spec.2 (argsL := argsL) (rest := rest) (lenOf hpd hlen) rfl (by show 2 * 0 + _ ≤ _; omega) (C.hd hd) (fun _ _ => ⟨has, rfl, hcl, hsl⟩)
  dsimp only [Pt.U, Pt.locs, Pt.cells, Pt.slots] at X' l1 y1 z1 stp hQ hS' hg
  subst l1 y1 z1
  obtain ⟨L1, M1, hr, hn, S'⟩ := back_fin hS hC N Kp G q hpk hln X' hS' hg hQ
  exact Go.trans stp (k T' v L1 M1 hr hn S')

theorem Cx.tableswitch (C : Cx p s m meth c Z EL own bytes maxl ret nm) (S : St p l e R s m args below meth c Z EL h0 L0 T L M cells slots) {x : Int32} {df lo hi : Int} {offs : Array Int} {len : Nat} (hd : decode bytes pc = .ok (.tableswitch df lo hi offs, len)) (hin : ¬ (x.toInt < lo ∨ x.toInt > hi)) {off : Int} (hoffs : offs[(x.toInt - lo).toNat]? = some off) (h1 : 0 ≤ (pc : Int) + off) (pc' : Nat) (hp : ((pc : Int) + off).toNat = pc') (k : Go p e below Q (T.setTop (mkF m pc' Ls st))) : Go p e below Q (T.setTop (mkF m pc Ls (.int x :: st))) := by
  subst hp
  obtain ⟨s', locs, X, hZ, hown, ksame, kext, kwr⟩ := S.opn C
  exact Go.step (fun t k => X.tableswitchIn C.1 (g := mkF m pc Ls (.int x :: st)) rfl rfl (C.hd hd) hin hoffs h1 t k) k
theorem Cx.ldcF (C : Cx p s m meth c Z EL own bytes maxl ret nm) (S : St p l e R s m args below meth c Z EL h0 L0 T L M cells slots) {idx : Nat} {b : UInt32} (w : (Jvm.Cond.constantFloat own idx b).before a0 Z = true) (hd : decode bytes pc = .ok (.ldc idx, 2)) (pc' : Nat) (hp : pc + 2 = pc') (k : Go p e below Q (T.setTop (mkF m pc' Ls (.float b :: st)))) : Go p e below Q (T.setTop (mkF m pc Ls st)) := by
  subst hp
  obtain ⟨s', locs, X, hZ, hown, ksame, kext, kwr⟩ := S.opn C
  exact Go.step (X.ldcFloatC C.1 hown (mvT hZ w) (g := mkF m pc Ls st) rfl (C.hd hd)) k
theorem St.opnN (C : Cx p s m meth c Z EL own bytes maxl ret nm) (S : St p l e R s m args below meth c Z EL h0 L0 T L M cells slots) : ∃ (s' : State) (locs : List Loc), Stand p l e R s' m args below meth c T locs cells slots ∧ Z.Warmed39 s'.vm ∧ s'.vm.findClass own = some m.cls ∧
    (∀ (T' : State) (h' : Heap) (N0 : HL) (k n : Nat), Stand p l e R s' m args below meth c T' locs (cells + k) (slots + n) → T'.heap = h' → Ext T.heap h' → (adr N0).Nodup → (∀ x ∈ N0, T.heap.size ≤ x.1 ∧ Live h' x) → St p l e R s m args below meth c Z EL h0 L0 T' (L ++ N0) M (cells + k) (slots + n)) := by
  obtain ⟨locs, vm0, X, hS, hC, N, O, K, G, q⟩ := S
  have hZ : Z.Warmed39 vm0 := State.Warmed39.trans C.2.2.2.2.2.2.1 hS.1
  have hsz : ∀ h' : Heap, T.heap.size ≤ h'.size → s.Since vm0 h'.size := fun h' g => ⟨hS.1, fun j p hj hp => by obtain ⟨x, y⟩ := hS.2 j p hj hp; exact ⟨x, Nat.lt_of_lt_of_le y g⟩⟩
  refine ⟨s.setVm vm0, locs, X, hZ, ?_, ?_⟩
  · show vm0.findClass own = _
    rw [hS.1.alike.findClass]; exact C.2.2.2.1
  · intro T' h' N0 k n X' e' E hnd hN
    subst e'
    have hC' := hC.trans (CHr.ext E hC.1)
    refine ⟨locs, vm0, X', hsz _ E.1, hC', N, O.ext E, K.ext E, ⟨?_, fun x hx => ?_⟩, fun x hx => ?_⟩
    · rw [adr, List.map_append]
      refine List.nodup_append.mpr ⟨G.1, hnd, fun a ha b hb => ?_⟩
      have := G.lt ha
      obtain ⟨y, hy, rfl⟩ := List.mem_map.mp hb
      exact Nat.ne_of_lt (Nat.lt_of_lt_of_le this (hN y hy).1)
    · rcases List.mem_append.mp hx with hx | hx
      · obtain ⟨⟨b1, b2, b3⟩, c1, c2, c3⟩ := G.2 x hx
        exact ⟨⟨b1, b2, b3.ext E hC.1⟩, c1, E.2 _ _ c2, c3⟩
      · obtain ⟨g1, g2⟩ := hN x hx
        exact ⟨⟨Nat.le_trans O.2.1 g1, Or.inr (Nat.le_trans K.1 g1), (Safe.new g1).ext E hC.1⟩, g2⟩
    · obtain ⟨⟨c1, c2, c3⟩, r⟩ := q x hx
      refine ⟨⟨c1, E.2 _ _ c2, c3⟩, fun z => ?_⟩
      rw [adr, List.map_append] at z
      rcases List.mem_append.mp z with z | z
      · exact r z
      · obtain ⟨y, hy, e⟩ := List.mem_map.mp z
        have g1 := (hN y hy).1
        have lt := (Array.getElem?_eq_some_iff.mp c2).1
        rw [e] at g1; exact Nat.not_lt.mpr g1 lt
theorem Cx.multi5 (C : Cx p s m meth c Z EL own bytes maxl ret nm) (S : St p l e R s m args below meth c Z EL h0 L0 T L M cells slots) {idx : Nat} {Cn ad : String} {ty : FieldType} {n k0 : Int32} (hC : (FieldType.array ty).toString = Cn) (had : "[" ++ Cn = ad) (w1 : (Jvm.Cond.classLink own idx ad).before a0 Z = true) (w2 : (Jvm.Cond.arrayOver (.array ty)).before a0 Z = true) (w3 : (Jvm.Cond.arrayClass ty).before a0 Z = true) (hd : decode bytes pc = .ok (.multianewarray idx 2, 4)) (pc' : Nat) (hp : pc + 4 = pc')
    (hn : ¬ n < 0) (hk : ¬ k0 < 0) (hN : n.toNatClampNeg = 5) (K : Nat) (hK : k0.toNatClampNeg = K) (hb : K * 8 ≤ 536870912) (hdf : fits ty (defaultValue ty) = true) (hdd : (defaultValue ty).isDefault = true) (hc : cells + 6 ≤ R.cells) (hl : slots + (5 + 5 * K) ≤ R.slots)
    (k : ∀ T' b r0 r1 r2 r3 r4, St p l e R s m args below meth c Z EL h0 L0 T' (L ++ [(b, Ary Z (.array ty) [.ref r0, .ref r1, .ref r2, .ref r3, .ref r4]), (r0, Ary Z ty (List.replicate K (defaultValue ty))), (r1, Ary Z ty (List.replicate K (defaultValue ty))), (r2, Ary Z ty (List.replicate K (defaultValue ty))), (r3, Ary Z ty (List.replicate K (defaultValue ty))), (r4, Ary Z ty (List.replicate K (defaultValue ty)))]) M (cells + 6) (slots + (5 + 5 * K)) → Go p e below Q (T'.setTop (mkF m pc' Ls (.ref b :: st)))) : Go p e below Q (T.setTop (mkF m pc Ls (.int k0 :: .int n :: st))) := by
  subst hp hK
  obtain ⟨s', locs, X, hZ, hown, kmore⟩ := S.opnN C
  obtain ⟨T', h', cA, comp, X', e', E, V, -, -, I, stp⟩ := gridM X C.1 hZ hown hC had w1 w2 w3 rfl (g := mkF m pc Ls (.int k0 :: .int n :: st)) rfl (C.hd hd) rfl hn hk (N := 5) hN (xs := [T.heap.size + 1 + 0, T.heap.size + 1 + 1, T.heap.size + 1 + 2, T.heap.size + 1 + 3, T.heap.size + 1 + 4]) rfl (cap := k0.toNatClampNeg) (Nat.le_refl _) hb (by decide) hdf hdd hc hl
  have i0 := (I 0 _ rfl).1
  have i1 := (I 1 _ rfl).1
  have i2 := (I 2 _ rfl).1
  have i3 := (I 3 _ rfl).1
  have i4 := (I 4 _ rfl).1
  refine Go.step stp (k T' T.heap.size (T.heap.size + 1 + 0) (T.heap.size + 1 + 1) (T.heap.size + 1 + 2) (T.heap.size + 1 + 3) (T.heap.size + 1 + 4) (kmore T' h' _ 6 _ X' e' E ?_ ?_))
  · show [T.heap.size, T.heap.size + 1 + 0, T.heap.size + 1 + 1, T.heap.size + 1 + 2, T.heap.size + 1 + 3, T.heap.size + 1 + 4].Nodup
    simp only [List.nodup_cons, List.mem_cons, List.not_mem_nil, or_false, not_false_eq_true, List.nodup_nil, and_true, not_or]
    omega
  · have key : ∀ j, j < 5 → T.heap.size ≤ T.heap.size + 1 + j := fun j _ => by omega
    exact faS ⟨Nat.le_refl _, arv_ary V (by rw [hN]; rfl)⟩ (faS ⟨key 0 (by decide), _, i0.1, ary_new i0⟩ (faS ⟨key 1 (by decide), _, i1.1, ary_new i1⟩ (faS ⟨key 2 (by decide), _, i2.1, ary_new i2⟩ (faS ⟨key 3 (by decide), _, i3.1, ary_new i3⟩ (faS ⟨key 4 (by decide), _, i4.1, ary_new i4⟩ fa0)))))
def AryRA (Z : State) (ty : FieldType) (K : String) (vs : List Value) (c : Cell) : Prop := Ary Z (.array ty) vs c ∧ OvrA Z c.cls ty K
theorem aryra {h : Heap} {a : Addr} {ty : FieldType} {K : String} {vs : List Value} (q : ∃ c, h[a]? = some c ∧ AryRA Z ty K vs c) : ∃ c, h[a]? = some c ∧ Ary Z (.array ty) vs c := by obtain ⟨c, h1, h2⟩ := q; exact ⟨c, h1, h2.1⟩
theorem Cx.anewarrayA (C : Cx p s m meth c Z EL own bytes maxl ret nm) (S : St p l e R s m args below meth c Z EL h0 L0 T L M cells slots) {idx : Nat} {K : String} {ty : FieldType} {n : Int32} (hC : (FieldType.array ty).toString = K) (w1 : (Jvm.Cond.classLink own idx K).before a0 Z = true) (w2 : (Jvm.Cond.arrayOver (.array ty)).before a0 Z = true) (hd : decode bytes pc = .ok (.anewarray idx, 3)) (pc' : Nat) (hp : pc + 3 = pc') (hn : ¬ n < 0) (N : Nat) (hN : n.toNatClampNeg = N) (cap : Nat) (hcap : N ≤ cap) (hb : cap * 8 ≤ 536870912)
    (hc : cells + 1 ≤ R.cells) (hs : slots + cap ≤ R.slots) (k : ∀ T' b, St p l e R s m args below meth c Z EL h0 L0 T' (L ++ [(b, AryRA Z ty K (List.replicate N .null))]) M (cells + 1) (slots + cap) → Go p e below Q (T'.setTop (mkF m pc' Ls (.ref b :: st)))) : Go p e below Q (T.setTop (mkF m pc Ls (.int n :: st))) := by
  subst hp hN
  obtain ⟨s', locs, X, hZ, hown, ksame, kext, kwr⟩ := S.opn C
  obtain ⟨T', h', cA, X', e', E, A, -, V, stp⟩ := newRA X C.1 hZ hown hC w1 w2 rfl (g := mkF m pc Ls (.int n :: st)) rfl (C.hd hd) rfl hn hcap hb hc hs rfl
  exact Go.step stp (k T' T.heap.size (kext T' h' _ _ _ X' e' E ⟨_, A.1, ary_new A, V⟩))
theorem Cx.aastoreA (C : Cx p s m meth c Z EL own bytes maxl ret nm) (S : St p l e R s m args below meth c Z EL h0 L0 T L M cells slots) {a b : Addr} {K : String} {ty : FieldType} {vs : List Value} {y : Int32} (i : Nat) (hi : nth L i = some (a, AryRA Z ty K vs)) (E : Exa Z T.heap b K) (hd : decode bytes pc = .ok (.aastore, 1)) (pc' : Nat) (hp : pc + 1 = pc') (hx : ¬ y < 0) (j : Nat) (hj : y.toNatClampNeg = j) (hl : j < vs.length)
    (k : ∀ T', St p l e R s m args below meth c Z EL h0 L0 T' (upd L i (a, AryRA Z ty K (upd vs j (.ref b)))) M cells slots → Go p e below Q (T'.setTop (mkF m pc' Ls st))) : Go p e below Q (T.setTop (mkF m pc Ls (.ref b :: .int y :: .ref a :: st))) := by
  subst hp
  obtain ⟨cl, h1, A, V⟩ := S.at i hi
  have F : Sto Z T.heap a (.ref b) := Sto.ofVA (A.arr h1) rfl V (Ins.self E)
  obtain ⟨s', locs, X, hZ, hown, ksame, kext, kwr⟩ := S.opn C
  obtain ⟨T', h', X', e', W, stp⟩ := stR X C.1 hZ rfl (A.arr h1) (in_of A.size hx hj hl) rfl F (g := mkF m pc Ls (.ref b :: .int y :: .ref a :: st)) rfl rfl (C.hd hd)
  exact Go.step stp (k T' (kwr T' h' i a _ _ _ _ hi X' e' W fun c _ P _ => by rw [hj]; exact ⟨P.1.put rfl, P.2⟩))
def AryRX (Z : State) (ad K : String) (vs : List Value) (c : Cell) : Prop := AryR Z K vs c ∧ Z.vm.findClass ad = some c.cls
theorem aryrx {h : Heap} {a : Addr} {ad K : String} {vs : List Value} (q : ∃ c, h[a]? = some c ∧ AryRX Z ad K vs c) : ∃ c, h[a]? = some c ∧ Ary Z (.object K) vs c := by obtain ⟨c, h1, h2⟩ := q; exact ⟨c, h1, h2.1.1⟩
theorem aryrx_exa {h : Heap} {a : Addr} {ad K : String} {vs : List Value} (q : ∃ c, h[a]? = some c ∧ AryRX Z ad K vs c) : Exa Z h a ad := by
  obtain ⟨c, h1, ⟨⟨⟨⟨o, k, hk, comp, hkk⟩, -⟩, -⟩, -⟩, h3⟩ := q
  exact ⟨c, k, h1, h3, hk, by cases hv : c.vm <;> simp_all [VmData.isStatics], fun q => by rw [hkk] at q; cases q⟩
theorem Cx.anewarrayX (C : Cx p s m meth c Z EL own bytes maxl ret nm) (S : St p l e R s m args below meth c Z EL h0 L0 T L M cells slots) {idx : Nat} {K ad : String} {n : Int32} (had : "[" ++ (FieldType.object K).toString = ad) (w1 : (Jvm.Cond.classLink own idx K).before a0 Z = true) (w2 : (Jvm.Cond.arrayOver (.object K)).before a0 Z = true) (hd : decode bytes pc = .ok (.anewarray idx, 3)) (pc' : Nat) (hp : pc + 3 = pc') (hn : ¬ n < 0) (N : Nat) (hN : n.toNatClampNeg = N) (cap : Nat) (hcap : N ≤ cap) (hb : cap * 8 ≤ 536870912)
    (hc : cells + 1 ≤ R.cells) (hs : slots + cap ≤ R.slots) (k : ∀ T' b, St p l e R s m args below meth c Z EL h0 L0 T' (L ++ [(b, AryRX Z ad K (List.replicate N .null))]) M (cells + 1) (slots + cap) → Go p e below Q (T'.setTop (mkF m pc' Ls (.ref b :: st)))) : Go p e below Q (T.setTop (mkF m pc Ls (.int n :: st))) := by
  subst hp hN
  obtain ⟨s', locs, X, hZ, hown, ksame, kext, kwr⟩ := S.opn C
  obtain ⟨T', h', cA, X', e', E, A, Ex, V, stp⟩ := newRE X C.1 hZ hown w1 w2 rfl (g := mkF m pc Ls (.int n :: st)) rfl (C.hd hd) rfl hn hcap hb hc hs had
  obtain ⟨c3, k3, q1, q2, q3, q4, q5⟩ := id Ex
  cases q1.symm.trans A.1
  exact Go.step stp (k T' T.heap.size (kext T' h' _ _ _ X' e' E ⟨_, A.1, ⟨ary_new A, V⟩, q2⟩))
theorem Cx.arraycopy0 (C : Cx p s m meth c Z EL own bytes maxl ret nm) (S : St p l e R s m args below meth c Z EL h0 L0 T L M cells slots) {idx : Nat} {a b : Addr} {ty : FieldType} {ad K : String} {vs vd : List Value} (w1 : (Jvm.Cond.methodLink own idx Jvm.Stand.acN).before a0 Z = true) (w2 : (Jvm.Cond.native Jvm.Stand.acN).before a0 Z = true) (w3 : (Jvm.Cond.static Jvm.Stand.acN).before a0 Z = true) (w4 : (Jvm.Cond.initialized "java/lang/System").before a0 Z = true) (A : ∃ cl, T.heap[a]? = some cl ∧ Ary Z ty vs cl) (i : Nat) (hi : nth L i = some (b, AryRX Z ad K vd)) (hty : refKind ty = true)
    (hs1 : vs.length < 2 ^ 31) (hs2 : vd.length < 2 ^ 31) (hd : decode bytes pc = .ok (.invokestatic idx, 3)) (pc' : Nat) (hp : pc + 3 = pc') (hz : Ls.size = maxl) (hf : 1 ≤ R.frames) (hlo : (st.map fun v => v.category).sum + (nativeFrameWords "java/lang/System" "arraycopy" 5 + 11) ≤ R.locals)
    (k : ∀ T', St p l e R s m args below meth c Z EL h0 L0 T' (upd L i (b, AryRX Z ad K vd)) M cells slots → Go p e below Q (T'.setTop (mkF m pc' Ls st))) : Go p e below Q (T.setTop (mkF m pc Ls (.int 0 :: .int 0 :: .ref b :: .int 0 :: .ref a :: st))) := by
  subst hp
  have C4 := C.2.2.2.1
  have C7 := C.2.2.2.2.2.2.1
  obtain ⟨cl, g1, A⟩ := A
  obtain ⟨cb, g2, ⟨B, V⟩, Bc⟩ := S.at i hi
  obtain ⟨locs, vm0, X, hS, hC, N, O, Kp, G, q⟩ := S
  have hZ : Z.Warmed39 vm0 := State.Warmed39.trans C7 hS.1
  have hown : vm0.findClass own = some m.cls := by rw [hS.1.alike.findClass]; exact C4
  obtain ⟨b1, b2, b3⟩ := G.base hi
  obtain ⟨T', h', L', X', e', N', K', F, stp⟩ := cpA X C.1 hZ hown w1 w2 w3 w4 rfl (ary_arv g1 A hs1) (ary_arv g2 B hs2) (Or.inr ⟨hty, rfl, trivial⟩) (sp := 0) (dp := 0) (nn := 0) (by decide) (by decide) (by decide) (Nat.zero_le _) (Nat.zero_le _) (us := []) rfl (Nat.zero_le _) N b1 (g := mkF m pc Ls (.int 0 :: .int 0 :: .ref b :: .int 0 :: .ref a :: st)) rfl (hz.trans C.2.2.1.symm) rfl (C.hd hd) hf (W := (st.map fun v => v.category).sum) (by show 2 * 0 + _ ≤ _; omega) hlo
  subst e'
  have q2 : ∀ (x : Addr) (c : Cell), x ≠ b → T.heap[x]? = some c → T'.heap[x]? = some c := fun x c hx hq => K'.2.1 x c hq fun hm => hx (List.mem_singleton.mp hm)
  have q0 : Live T'.heap (b, Ary Z (.object K) vd) := arv_ary (vs := vd) F (by rw [ofn_nat hs2])
  have q1 : Live T'.heap (b, AryRX Z ad K vd) := by
    obtain ⟨c1, u1, u2⟩ := q0
    obtain ⟨c2, v1, v2, -⟩ := F
    cases (show T'.heap[b]? = some c1 from u1).symm.trans v1.1
    exact ⟨c1, u1, ⟨u2, by rw [v2]; exact V⟩, by rw [v2]; exact Bc⟩
  have hsb : ∀ x ∈ [b], Safe Z EL vm0 T.heap x := faS b3 fa0
  refine Go.step stp (k T' ⟨L', vm0, X', ⟨hS.1, fun j p hj hp => by obtain ⟨x, y⟩ := hS.2 j p hj hp; exact ⟨x, Nat.lt_of_lt_of_le y K'.1⟩⟩, hC.trans (CHr.keep K' hsb hC.1), N', O.keep K' (faS b1 fa0), Kp.trans K' (faS b2 fa0), ?_, q.wr hi q2⟩)
  exact (G.set hi q2 q1).mono fun x _ z => ⟨z.1, z.2.1, Safe.keep K' hsb hC.1 z.2.2⟩
theorem Cx.if_eqT (C : Cx p s m meth c Z EL own bytes maxl ret nm) (S : St p l e R s m args below meth c Z EL h0 L0 T L M cells slots) {x : Int32} {o : Int} (hd : decode bytes pc = .ok (.ifCond .eq o, 3)) (pt : Nat) (hj : (pc : Int) + o = (pt : Int)) (h : x = 0) (k : Go p e below Q (T.setTop (mkF m pt Ls st))) : Go p e below Q (T.setTop (mkF m pc Ls (.int x :: st))) := Go.step (fun t k => XS.ifYes S.here C.1 rfl (pc0 := pc) (pc' := pt) rfl (C.hd hd) rfl (XT.i0_eq_t h) (by rw [hj]; exact Int.natCast_nonneg _) (by rw [hj]; exact Int.toNat_natCast _) k) k
theorem Cx.if_eqF (C : Cx p s m meth c Z EL own bytes maxl ret nm) (S : St p l e R s m args below meth c Z EL h0 L0 T L M cells slots) {x : Int32} {o : Int} (hd : decode bytes pc = .ok (.ifCond .eq o, 3)) (pf : Nat) (hf : pc + 3 = pf) (h : ¬ x = 0) (k : Go p e below Q (T.setTop (mkF m pf Ls st))) : Go p e below Q (T.setTop (mkF m pc Ls (.int x :: st))) := by subst hf; exact Go.step (fun t k => XS.ifNo S.here C.1 rfl (C.hd hd) rfl (XT.i0_eq_f h) k) k
theorem Cx.icmp_eqF (C : Cx p s m meth c Z EL own bytes maxl ret nm) (S : St p l e R s m args below meth c Z EL h0 L0 T L M cells slots) {x y : Int32} {o : Int} (hd : decode bytes pc = .ok (.if_icmp .eq o, 3)) (pf : Nat) (hf : pc + 3 = pf) (h : ¬ x = y) (k : Go p e below Q (T.setTop (mkF m pf Ls st))) : Go p e below Q (T.setTop (mkF m pc Ls (.int y :: .int x :: st))) := by subst hf; exact Go.step (fun t k => XS.icmpNo S.here C.1 rfl (C.hd hd) rfl (XT.ii_eq_f h) k) k
theorem Cx.if_neT (C : Cx p s m meth c Z EL own bytes maxl ret nm) (S : St p l e R s m args below meth c Z EL h0 L0 T L M cells slots) {x : Int32} {o : Int} (hd : decode bytes pc = .ok (.ifCond .ne o, 3)) (pt : Nat) (hj : (pc : Int) + o = (pt : Int)) (h : ¬ x = 0) (k : Go p e below Q (T.setTop (mkF m pt Ls st))) : Go p e below Q (T.setTop (mkF m pc Ls (.int x :: st))) := Go.step (fun t k => XS.ifYes S.here C.1 rfl (pc0 := pc) (pc' := pt) rfl (C.hd hd) rfl (XT.i0_ne_t h) (by rw [hj]; exact Int.natCast_nonneg _) (by rw [hj]; exact Int.toNat_natCast _) k) k
theorem Cx.if_neF (C : Cx p s m meth c Z EL own bytes maxl ret nm) (S : St p l e R s m args below meth c Z EL h0 L0 T L M cells slots) {x : Int32} {o : Int} (hd : decode bytes pc = .ok (.ifCond .ne o, 3)) (pf : Nat) (hf : pc + 3 = pf) (h : x = 0) (k : Go p e below Q (T.setTop (mkF m pf Ls st))) : Go p e below Q (T.setTop (mkF m pc Ls (.int x :: st))) := by subst hf; exact Go.step (fun t k => XS.ifNo S.here C.1 rfl (C.hd hd) rfl (XT.i0_ne_f h) k) k
theorem Cx.icmp_neT (C : Cx p s m meth c Z EL own bytes maxl ret nm) (S : St p l e R s m args below meth c Z EL h0 L0 T L M cells slots) {x y : Int32} {o : Int} (hd : decode bytes pc = .ok (.if_icmp .ne o, 3)) (pt : Nat) (hj : (pc : Int) + o = (pt : Int)) (h : ¬ x = y) (k : Go p e below Q (T.setTop (mkF m pt Ls st))) : Go p e below Q (T.setTop (mkF m pc Ls (.int y :: .int x :: st))) := Go.step (fun t k => XS.icmpYes S.here C.1 rfl (pc0 := pc) (pc' := pt) rfl (C.hd hd) rfl (XT.ii_ne_t h) (by rw [hj]; exact Int.natCast_nonneg _) (by rw [hj]; exact Int.toNat_natCast _) k) k
theorem Cx.icmp_neF (C : Cx p s m meth c Z EL own bytes maxl ret nm) (S : St p l e R s m args below meth c Z EL h0 L0 T L M cells slots) {x y : Int32} {o : Int} (hd : decode bytes pc = .ok (.if_icmp .ne o, 3)) (pf : Nat) (hf : pc + 3 = pf) (h : x = y) (k : Go p e below Q (T.setTop (mkF m pf Ls st))) : Go p e below Q (T.setTop (mkF m pc Ls (.int y :: .int x :: st))) := by subst hf; exact Go.step (fun t k => XS.icmpNo S.here C.1 rfl (C.hd hd) rfl (XT.ii_ne_f h) k) k
theorem Cx.if_ltT (C : Cx p s m meth c Z EL own bytes maxl ret nm) (S : St p l e R s m args below meth c Z EL h0 L0 T L M cells slots) {x : Int32} {o : Int} (hd : decode bytes pc = .ok (.ifCond .lt o, 3)) (pt : Nat) (hj : (pc : Int) + o = (pt : Int)) (h : x < 0) (k : Go p e below Q (T.setTop (mkF m pt Ls st))) : Go p e below Q (T.setTop (mkF m pc Ls (.int x :: st))) := Go.step (fun t k => XS.ifYes S.here C.1 rfl (pc0 := pc) (pc' := pt) rfl (C.hd hd) rfl (XT.i0_lt_t h) (by rw [hj]; exact Int.natCast_nonneg _) (by rw [hj]; exact Int.toNat_natCast _) k) k
theorem Cx.if_ltF (C : Cx p s m meth c Z EL own bytes maxl ret nm) (S : St p l e R s m args below meth c Z EL h0 L0 T L M cells slots) {x : Int32} {o : Int} (hd : decode bytes pc = .ok (.ifCond .lt o, 3)) (pf : Nat) (hf : pc + 3 = pf) (h : ¬ x < 0) (k : Go p e below Q (T.setTop (mkF m pf Ls st))) : Go p e below Q (T.setTop (mkF m pc Ls (.int x :: st))) := by subst hf; exact Go.step (fun t k => XS.ifNo S.here C.1 rfl (C.hd hd) rfl (XT.i0_lt_f h) k) k
theorem Cx.icmp_ltT (C : Cx p s m meth c Z EL own bytes maxl ret nm) (S : St p l e R s m args below meth c Z EL h0 L0 T L M cells slots) {x y : Int32} {o : Int} (hd : decode bytes pc = .ok (.if_icmp .lt o, 3)) (pt : Nat) (hj : (pc : Int) + o = (pt : Int)) (h : x < y) (k : Go p e below Q (T.setTop (mkF m pt Ls st))) : Go p e below Q (T.setTop (mkF m pc Ls (.int y :: .int x :: st))) := Go.step (fun t k => XS.icmpYes S.here C.1 rfl (pc0 := pc) (pc' := pt) rfl (C.hd hd) rfl (XT.ii_lt_t h) (by rw [hj]; exact Int.natCast_nonneg _) (by rw [hj]; exact Int.toNat_natCast _) k) k
theorem Cx.icmp_ltF (C : Cx p s m meth c Z EL own bytes maxl ret nm) (S : St p l e R s m args below meth c Z EL h0 L0 T L M cells slots) {x y : Int32} {o : Int} (hd : decode bytes pc = .ok (.if_icmp .lt o, 3)) (pf : Nat) (hf : pc + 3 = pf) (h : ¬ x < y) (k : Go p e below Q (T.setTop (mkF m pf Ls st))) : Go p e below Q (T.setTop (mkF m pc Ls (.int y :: .int x :: st))) := by subst hf; exact Go.step (fun t k => XS.icmpNo S.here C.1 rfl (C.hd hd) rfl (XT.ii_lt_f h) k) k
theorem Cx.if_geT (C : Cx p s m meth c Z EL own bytes maxl ret nm) (S : St p l e R s m args below meth c Z EL h0 L0 T L M cells slots) {x : Int32} {o : Int} (hd : decode bytes pc = .ok (.ifCond .ge o, 3)) (pt : Nat) (hj : (pc : Int) + o = (pt : Int)) (h : ¬ x < 0) (k : Go p e below Q (T.setTop (mkF m pt Ls st))) : Go p e below Q (T.setTop (mkF m pc Ls (.int x :: st))) := Go.step (fun t k => XS.ifYes S.here C.1 rfl (pc0 := pc) (pc' := pt) rfl (C.hd hd) rfl (XT.i0_ge_t h) (by rw [hj]; exact Int.natCast_nonneg _) (by rw [hj]; exact Int.toNat_natCast _) k) k
theorem Cx.if_geF (C : Cx p s m meth c Z EL own bytes maxl ret nm) (S : St p l e R s m args below meth c Z EL h0 L0 T L M cells slots) {x : Int32} {o : Int} (hd : decode bytes pc = .ok (.ifCond .ge o, 3)) (pf : Nat) (hf : pc + 3 = pf) (h : x < 0) (k : Go p e below Q (T.setTop (mkF m pf Ls st))) : Go p e below Q (T.setTop (mkF m pc Ls (.int x :: st))) := by subst hf; exact Go.step (fun t k => XS.ifNo S.here C.1 rfl (C.hd hd) rfl (XT.i0_ge_f h) k) k
theorem Cx.icmp_geT (C : Cx p s m meth c Z EL own bytes maxl ret nm) (S : St p l e R s m args below meth c Z EL h0 L0 T L M cells slots) {x y : Int32} {o : Int} (hd : decode bytes pc = .ok (.if_icmp .ge o, 3)) (pt : Nat) (hj : (pc : Int) + o = (pt : Int)) (h : ¬ x < y) (k : Go p e below Q (T.setTop (mkF m pt Ls st))) : Go p e below Q (T.setTop (mkF m pc Ls (.int y :: .int x :: st))) := Go.step (fun t k => XS.icmpYes S.here C.1 rfl (pc0 := pc) (pc' := pt) rfl (C.hd hd) rfl (XT.ii_ge_t h) (by rw [hj]; exact Int.natCast_nonneg _) (by rw [hj]; exact Int.toNat_natCast _) k) k
theorem Cx.icmp_geF (C : Cx p s m meth c Z EL own bytes maxl ret nm) (S : St p l e R s m args below meth c Z EL h0 L0 T L M cells slots) {x y : Int32} {o : Int} (hd : decode bytes pc = .ok (.if_icmp .ge o, 3)) (pf : Nat) (hf : pc + 3 = pf) (h : x < y) (k : Go p e below Q (T.setTop (mkF m pf Ls st))) : Go p e below Q (T.setTop (mkF m pc Ls (.int y :: .int x :: st))) := by subst hf; exact Go.step (fun t k => XS.icmpNo S.here C.1 rfl (C.hd hd) rfl (XT.ii_ge_f h) k) k
theorem Cx.icmp_gtT (C : Cx p s m meth c Z EL own bytes maxl ret nm) (S : St p l e R s m args below meth c Z EL h0 L0 T L M cells slots) {x y : Int32} {o : Int} (hd : decode bytes pc = .ok (.if_icmp .gt o, 3)) (pt : Nat) (hj : (pc : Int) + o = (pt : Int)) (h : y < x) (k : Go p e below Q (T.setTop (mkF m pt Ls st))) : Go p e below Q (T.setTop (mkF m pc Ls (.int y :: .int x :: st))) := Go.step (fun t k => XS.icmpYes S.here C.1 rfl (pc0 := pc) (pc' := pt) rfl (C.hd hd) rfl (XT.ii_gt_t h) (by rw [hj]; exact Int.natCast_nonneg _) (by rw [hj]; exact Int.toNat_natCast _) k) k
theorem Cx.if_leF (C : Cx p s m meth c Z EL own bytes maxl ret nm) (S : St p l e R s m args below meth c Z EL h0 L0 T L M cells slots) {x : Int32} {o : Int} (hd : decode bytes pc = .ok (.ifCond .le o, 3)) (pf : Nat) (hf : pc + 3 = pf) (h : 0 < x) (k : Go p e below Q (T.setTop (mkF m pf Ls st))) : Go p e below Q (T.setTop (mkF m pc Ls (.int x :: st))) := by subst hf; exact Go.step (fun t k => XS.ifNo S.here C.1 rfl (C.hd hd) rfl (XT.i0_le_f h) k) k
theorem Cx.icmp_leT (C : Cx p s m meth c Z EL own bytes maxl ret nm) (S : St p l e R s m args below meth c Z EL h0 L0 T L M cells slots) {x y : Int32} {o : Int} (hd : decode bytes pc = .ok (.if_icmp .le o, 3)) (pt : Nat) (hj : (pc : Int) + o = (pt : Int)) (h : ¬ y < x) (k : Go p e below Q (T.setTop (mkF m pt Ls st))) : Go p e below Q (T.setTop (mkF m pc Ls (.int y :: .int x :: st))) := Go.step (fun t k => XS.icmpYes S.here C.1 rfl (pc0 := pc) (pc' := pt) rfl (C.hd hd) rfl (XT.ii_le_t h) (by rw [hj]; exact Int.natCast_nonneg _) (by rw [hj]; exact Int.toNat_natCast _) k) k
def DecT (b : ByteArray) (t : List (Nat × Instr × Nat)) : Bool := t.all fun x => decide (decode b x.1 = .ok (x.2.1, x.2.2))
theorem dcT {b : ByteArray} {t : List (Nat × Instr × Nat)} (h : DecT b t = true) (i : Nat) {pc : Nat} {ins : Instr} {ln : Nat} (hi : nth t i = some (pc, ins, ln)) : decode b pc = .ok (ins, ln) := by
  unfold DecT at h
  have q := List.all_eq_true.mp h (pc, ins, ln) (nth_mem hi)
  simpa only [decide_eq_true_eq] using q
abbrev rm (f c s l : Nat) : Room := { frames := f, cells := c, slots := s, locals := l }
theorem Cx.gf (C : Cx p s m meth c Z EL own bytes maxl ret nm) (S : St p l e R s m args below meth c Z EL h0 L0 T L M cells slots) {idx : Nat} {R0 n d : String} {a : Addr} {v : Value} (w : (Jvm.Cond.fieldLink own idx R0 n d).before a0 Z = true) (hd : decode bytes pc = .ok (.getfield idx, 3)) (F : Fld Z T.heap a R0 n d v) (pc' : Nat) (hp : pc + 3 = pc')
    (k : ∀ T', St p l e R s m args below meth c Z EL h0 L0 T' L M cells slots → Go p e below Q (T'.setTop (mkF m pc' Ls (v :: st)))) : Go p e below Q (T.setTop (mkF m pc Ls (.ref a :: st))) := C.getfield S (host := "") (Or.inl w) Via.refl hd F pc' hp k
theorem Cx.i1 (C : Cx p s m meth c Z EL own bytes maxl ret nm) (S : St p l e R s m args below meth c Z EL h0 L0 T L M cells slots) {i : Fin 4} {v : Int32} (hd : decode bytes pc = .ok (.iload_n i, 1)) (hl : Ls[i.val]? = some (.val (.int v))) (k : Go p e below Q (T.setTop (mkF m (pc + 1) Ls (.int v :: st)))) : Go p e below Q (T.setTop (mkF m pc Ls st)) := C.iloadN S hd _ rfl hl k
theorem Cx.i2 (C : Cx p s m meth c Z EL own bytes maxl ret nm) (S : St p l e R s m args below meth c Z EL h0 L0 T L M cells slots) {i : Nat} {v : Int32} (hd : decode bytes pc = .ok (.iload i, 2)) (hl : Ls[i]? = some (.val (.int v))) (k : Go p e below Q (T.setTop (mkF m (pc + 2) Ls (.int v :: st)))) : Go p e below Q (T.setTop (mkF m pc Ls st)) := C.iload S hd _ rfl hl k
theorem Cx.a1 (C : Cx p s m meth c Z EL own bytes maxl ret nm) (S : St p l e R s m args below meth c Z EL h0 L0 T L M cells slots) {i : Fin 4} {v : Value} (hd : decode bytes pc = .ok (.aload_n i, 1)) (hl : Ls[i.val]? = some (.val v)) (hv : v.isRef = true) (k : Go p e below Q (T.setTop (mkF m (pc + 1) Ls (v :: st)))) : Go p e below Q (T.setTop (mkF m pc Ls st)) := C.aloadN S hd _ rfl hl hv k
theorem Cx.a2 (C : Cx p s m meth c Z EL own bytes maxl ret nm) (S : St p l e R s m args below meth c Z EL h0 L0 T L M cells slots) {i : Nat} {v : Value} (hd : decode bytes pc = .ok (.aload i, 2)) (hl : Ls[i]? = some (.val v)) (hv : v.isRef = true) (k : Go p e below Q (T.setTop (mkF m (pc + 2) Ls (v :: st)))) : Go p e below Q (T.setTop (mkF m pc Ls st)) := C.aload S hd _ rfl hl hv k
theorem Cx.k1 (C : Cx p s m meth c Z EL own bytes maxl ret nm) (S : St p l e R s m args below meth c Z EL h0 L0 T L M cells slots) {i : Int} (hd : decode bytes pc = .ok (.iconst i, 1)) (v : Int32) (hv : Int32.ofInt i = v) (k : Go p e below Q (T.setTop (mkF m (pc + 1) Ls (.int v :: st)))) : Go p e below Q (T.setTop (mkF m pc Ls st)) := C.iconst S hd _ rfl v hv k
theorem Cx.k2 (C : Cx p s m meth c Z EL own bytes maxl ret nm) (S : St p l e R s m args below meth c Z EL h0 L0 T L M cells slots) {i : Int} (hd : decode bytes pc = .ok (.bipush i, 2)) (v : Int32) (hv : (Int8.ofInt i).toInt32 = v) (k : Go p e below Q (T.setTop (mkF m (pc + 2) Ls (.int v :: st)))) : Go p e below Q (T.setTop (mkF m pc Ls st)) := C.bipush S hd _ rfl v hv k
theorem Cx.k3 (C : Cx p s m meth c Z EL own bytes maxl ret nm) (S : St p l e R s m args below meth c Z EL h0 L0 T L M cells slots) {i : Int} (hd : decode bytes pc = .ok (.sipush i, 3)) (v : Int32) (hv : (Int16.ofInt i).toInt32 = v) (k : Go p e below Q (T.setTop (mkF m (pc + 3) Ls (.int v :: st)))) : Go p e below Q (T.setTop (mkF m pc Ls st)) := C.sipush S hd _ rfl v hv k
theorem Con.ob {l : Launch} {Z : State} {EL : List (String × Nat)} {y : MethodName} {bytes : ByteArray} {maxl : Nat} {ret : Option FieldType} {rm : Room} {as' : Array Value} {L0 M0 : HL} {Rel : Option Value → HL → HL → Prop} (Ls : Array Slot) (hpl : plainFor y = true) (body : ∀ (p : Program) (e : Env) (s : State) (m : MethodId) (below : List Frame) (meth : Method) (c : Code) (T : State) (h0 : Heap), Cx p s m meth c Z EL y.cls bytes maxl ret y.name → St p l e rm s m as' below meth c Z EL h0 L0 T L0 M0 0 0 → Go p e below (Qw rm s Z EL h0 L0 Rel) (T.setTop (mkF m 0 Ls []))) (hef : ∀ m, entryFrame m as' maxl = mkF m 0 Ls [] := by intro m; first | (simp [entryFrame, mkF, argsToLocals, Value.category]; done) | rfl) : Con l Z EL y bytes maxl ret rm as' L0 M0 Rel := Con.of_body hpl hef body
theorem Cx.xs (C : Cx p s m meth c Z EL own bytes maxl ret nm) (S : St p l e R s m args below meth c Z EL h0 L0 T L M cells slots) {N0 K0 : HL} {Rel : Option Value → HL → HL → Prop} {rm : Room} {as' : Array Value} {bytesC : ByteArray} {maxC : Nat} {idx : Nat} {y : MethodName} {retC : Option FieldType} (w1 : (Jvm.Cond.methodLink own idx y).before a0 Z = true) (w2 : (Jvm.Cond.static y).before a0 Z = true) (w3 : (Jvm.Cond.initialized y.cls).before a0 Z = true) (w4 : (Jvm.Cond.code y bytesC maxC retC).before a0 Z = true)
    (H : Con l Z EL y bytesC maxC retC rm as' N0 K0 Rel) (hd : decode bytes pc = .ok (.invokestatic idx, 3)) {ps : List FieldType} {rt : Option FieldType} (hpd : parseMethodDescriptor y.desc = some ⟨ps, rt⟩) {stk : List Value} (argsL rest : List Value) (is : List Nat) (hK : RoL T.heap N0 K0)
    (k : ∀ (T' : State) (v : Option Value) (L1 M1 : HL), Rel v L1 M1 → (∀ x ∈ M1, RoN Z EL s.vm h0 x.1) → St p l e R s m args below meth c Z EL h0 L0 T' (puts L is (L1.take N0.length) ++ L1.drop N0.length) (M ++ M1) (cells + rm.cells) (slots + rm.slots) → Go p e below Q (T'.setTop (mkF m (pc + 3) Ls (v.toList ++ rest)))) (hy : y.cls ≠ "java/lang/invoke/MethodHandle" ∧ y.cls ≠ "java/lang/invoke/VarHandle" := by decide) (hz : Ls.size = maxl := by rfl) (hst : stk = argsL.reverse ++ rest := by rfl) (hlen : argsL.length = ps.length := by rfl) (has : argsL.toArray = as' := by rfl) (hpk : OwnK.pick L is = N0 := by rfl) (his : is.Nodup := by decide) (hln : N0.length = is.length := by rfl) (hfr : rm.frames + 1 ≤ R.frames := by exact leD rfl) (hlo : (rest.map fun v => v.category).sum + (maxC + 11) + rm.locals ≤ R.locals := by exact leD rfl) (hcl : cells + rm.cells ≤ R.cells := by exact leD rfl) (hsl : slots + rm.slots ≤ R.slots := by exact leD rfl) : Go p e below Q (T.setTop (mkF m pc Ls stk)) :=
  C.callStatic S w1 w2 w3 w4 hy H hd _ rfl hz hpd argsL rest hst hlen has is hpk his hln hK hfr hlo hcl hsl k
theorem Cx.xi (C : Cx p s m meth c Z EL own bytes maxl ret nm) (S : St p l e R s m args below meth c Z EL h0 L0 T L M cells slots) {N0 K0 : HL} {Rel : Option Value → HL → HL → Prop} {rm : Room} {as' : Array Value} {bytesC : ByteArray} {maxC : Nat} {idx : Nat} {y : MethodName} {a : Addr} (w1 : (Jvm.Cond.methodLink own idx y).before a0 Z = true) (w2 : (Jvm.Cond.instanceMethod y).before a0 Z = true) (w3 : (Jvm.Cond.initialized y.cls).before a0 Z = true) (w4 : (Jvm.Cond.code y bytesC maxC none).before a0 Z = true)
    (H : Con l Z EL y bytesC maxC none rm as' N0 K0 Rel) (hd : decode bytes pc = .ok (.invokespecial idx, 3)) {ps : List FieldType} {rt : Option FieldType} (hpd : parseMethodDescriptor y.desc = some ⟨ps, rt⟩) {stk : List Value} (argsL rest : List Value) (is : List Nat) (hK : RoL T.heap N0 K0)
    (k : ∀ (T' : State) (v : Option Value) (L1 M1 : HL), Rel v L1 M1 → (∀ x ∈ M1, RoN Z EL s.vm h0 x.1) → St p l e R s m args below meth c Z EL h0 L0 T' (puts L is (L1.take N0.length) ++ L1.drop N0.length) (M ++ M1) (cells + rm.cells) (slots + rm.slots) → Go p e below Q (T'.setTop (mkF m (pc + 3) Ls (v.toList ++ rest)))) (hy1 : y.name = "<init>" := by rfl) (hy : y.cls ≠ "java/lang/invoke/MethodHandle" ∧ y.cls ≠ "java/lang/invoke/VarHandle" := by decide) (hz : Ls.size = maxl := by rfl) (hst : stk = argsL.reverse ++ .ref a :: rest := by rfl) (hlen : argsL.length = ps.length := by rfl) (has : (Value.ref a :: argsL).toArray = as' := by rfl) (hpk : OwnK.pick L is = N0 := by rfl) (his : is.Nodup := by decide) (hln : N0.length = is.length := by rfl) (hfr : rm.frames + 1 ≤ R.frames := by exact leD rfl) (hlo : (rest.map fun v => v.category).sum + (maxC + 11) + rm.locals ≤ R.locals := by exact leD rfl) (hcl : cells + rm.cells ≤ R.cells := by exact leD rfl) (hsl : slots + rm.slots ≤ R.slots := by exact leD rfl) : Go p e below Q (T.setTop (mkF m pc Ls stk)) :=
  C.callSpecial S hy1 w1 w2 w3 w4 hy H hd _ rfl hz hpd argsL rest hst hlen has is hpk his hln hK hfr hlo hcl hsl k
theorem Cx.xr (C : Cx p s m meth c Z EL own bytes maxl ret nm) (S : St p l e R s m args below meth c Z EL h0 L0 T L M cells slots) {N0 K0 : HL} {Rel : Option Value → HL → HL → Prop} {rm : Room} {as' : Array Value} {bytesC : ByteArray} {maxC : Nat} {idx : Nat} {y : MethodName} {a : Addr} (w1 : (Jvm.Cond.methodRef own idx y).before a0 Z = true) (w2 : (Jvm.Cond.instanceMethod y).before a0 Z = true) (w3 : (Jvm.Cond.initialized y.cls).before a0 Z = true) (w4 : (Jvm.Cond.code y bytesC maxC none).before a0 Z = true)
    (H : Con l Z EL y bytesC maxC none rm as' N0 K0 Rel) (hd : decode bytes pc = .ok (.invokespecial idx, 3)) {ps : List FieldType} {rt : Option FieldType} (hpd : parseMethodDescriptor y.desc = some ⟨ps, rt⟩) {stk : List Value} (argsL rest : List Value) (is : List Nat) (hK : RoL T.heap N0 K0)
    (k : ∀ (T' : State) (v : Option Value) (L1 M1 : HL), Rel v L1 M1 → (∀ x ∈ M1, RoN Z EL s.vm h0 x.1) → St p l e R s m args below meth c Z EL h0 L0 T' (puts L is (L1.take N0.length) ++ L1.drop N0.length) (M ++ M1) (cells + rm.cells) (slots + rm.slots) → Go p e below Q (T'.setTop (mkF m (pc + 3) Ls (v.toList ++ rest)))) (hy1 : y.name = "<init>" := by rfl) (hy : y.cls ≠ "java/lang/invoke/MethodHandle" ∧ y.cls ≠ "java/lang/invoke/VarHandle" := by decide) (hz : Ls.size = maxl := by rfl) (hst : stk = argsL.reverse ++ .ref a :: rest := by rfl) (hlen : argsL.length = ps.length := by rfl) (has : (Value.ref a :: argsL).toArray = as' := by rfl) (hpk : OwnK.pick L is = N0 := by rfl) (his : is.Nodup := by decide) (hln : N0.length = is.length := by rfl) (hfr : rm.frames + 1 ≤ R.frames := by exact leD rfl) (hlo : (rest.map fun v => v.category).sum + (maxC + 11) + rm.locals ≤ R.locals := by exact leD rfl) (hcl : cells + rm.cells ≤ R.cells := by exact leD rfl) (hsl : slots + rm.slots ≤ R.slots := by exact leD rfl) : Go p e below Q (T.setTop (mkF m pc Ls stk)) :=
  C.callSpecialR S hy1 w1 w2 w3 w4 hy H hd _ rfl hz hpd argsL rest hst hlen has is hpk his hln hK hfr hlo hcl hsl k
theorem Cx.xp (C : Cx p s m meth c Z EL own bytes maxl ret nm) (S : St p l e R s m args below meth c Z EL h0 L0 T L M cells slots) {N0 K0 : HL} {Rel : Option Value → HL → HL → Prop} {rm : Room} {as' : Array Value} {bytesC : ByteArray} {maxC : Nat} {idx : Nat} {y y' : MethodName} {a : Addr} {K KS : String} {retC : Option FieldType} (E : Exa Z T.heap a K) (w1 : (Jvm.Cond.methodLink own idx y).before a0 Z = true) (wi : (Jvm.Cond.instanceMethod y).before a0 Z = true) (wsi : (Jvm.Cond.instanceMethod y').before a0 Z = true) (ws : (Jvm.Cond.selects KS y' y').before a0 Z = true) (wp : (Jvm.Cond.privateMethod y).before a0 Z = true) (w3 : (Jvm.Cond.initialized y.cls).before a0 Z = true) (w4 : (Jvm.Cond.code y bytesC maxC retC).before a0 Z = true)
    (H : Con l Z EL y bytesC maxC retC rm as' N0 K0 Rel) (hd : decode bytes pc = .ok (.invokevirtual idx, 3)) {ps : List FieldType} {rt : Option FieldType} (hpd : parseMethodDescriptor y.desc = some ⟨ps, rt⟩) {stk : List Value} (argsL rest : List Value) (is : List Nat) (hK : RoL T.heap N0 K0)
    (k : ∀ (T' : State) (v : Option Value) (L1 M1 : HL), Rel v L1 M1 → (∀ x ∈ M1, RoN Z EL s.vm h0 x.1) → St p l e R s m args below meth c Z EL h0 L0 T' (puts L is (L1.take N0.length) ++ L1.drop N0.length) (M ++ M1) (cells + rm.cells) (slots + rm.slots) → Go p e below Q (T'.setTop (mkF m (pc + 3) Ls (v.toList ++ rest)))) (hcc : y'.cls = y.cls := by rfl) (hy : y.cls ≠ "java/lang/invoke/MethodHandle" ∧ y.cls ≠ "java/lang/invoke/VarHandle" := by decide) (hz : Ls.size = maxl := by rfl) (hst : stk = argsL.reverse ++ .ref a :: rest := by rfl) (hlen : argsL.length = ps.length := by rfl) (has : (Value.ref a :: argsL).toArray = as' := by rfl) (hpk : OwnK.pick L is = N0 := by rfl) (his : is.Nodup := by decide) (hln : N0.length = is.length := by rfl) (hfr : rm.frames + 1 ≤ R.frames := by exact leD rfl) (hlo : (rest.map fun v => v.category).sum + (maxC + 11) + rm.locals ≤ R.locals := by exact leD rfl) (hcl : cells + rm.cells ≤ R.cells := by exact leD rfl) (hsl : slots + rm.slots ≤ R.slots := by exact leD rfl) : Go p e below Q (T.setTop (mkF m pc Ls stk)) :=
  C.callPrivate2 S E w1 wi hcc wsi ws wp w3 w4 hy H hd _ rfl hz hpd argsL rest hst hlen has is hpk his hln hK hfr hlo hcl hsl k
theorem Cx.xv (C : Cx p s m meth c Z EL own bytes maxl ret nm) (S : St p l e R s m args below meth c Z EL h0 L0 T L M cells slots) {N0 K0 : HL} {Rel : Option Value → HL → HL → Prop} {rm : Room} {as' : Array Value} {bytesC : ByteArray} {maxC : Nat} {idx : Nat} {y z : MethodName} {a : Addr} {K : String} {retC : Option FieldType} (E : Exa Z T.heap a K) (w1 : (Jvm.Cond.methodLink own idx y).before a0 Z = true) (w2 : (Jvm.Cond.declares y).before a0 Z = true) (wn : (∃ KS, (Jvm.Cond.selects KS y y).before a0 Z = true) ∨ (∃ S0, (Jvm.Cond.superclass y.cls S0).before a0 Z = true) ∨ (Jvm.Cond.noSuperclass y.cls).before a0 Z = true ∨ (∃ (KS : String) (y' : MethodName), y'.cls = y.cls ∧ (Jvm.Cond.instanceMethod y').before a0 Z = true ∧ (Jvm.Cond.selects KS y' y').before a0 Z = true)) (ws : (Jvm.Cond.selects K y z).before a0 Z = true) (wi : (Jvm.Cond.instanceMethod z).before a0 Z = true) (w3 : (Jvm.Cond.initialized z.cls).before a0 Z = true) (w4 : (Jvm.Cond.code z bytesC maxC retC).before a0 Z = true)
    (H : Con l Z EL z bytesC maxC retC rm as' N0 K0 Rel) (hd : decode bytes pc = .ok (.invokevirtual idx, 3)) {ps : List FieldType} {rt : Option FieldType} (hpd : parseMethodDescriptor y.desc = some ⟨ps, rt⟩) {stk : List Value} (argsL rest : List Value) (is : List Nat) (hK : RoL T.heap N0 K0)
    (k : ∀ (T' : State) (v : Option Value) (L1 M1 : HL), Rel v L1 M1 → (∀ x ∈ M1, RoN Z EL s.vm h0 x.1) → St p l e R s m args below meth c Z EL h0 L0 T' (puts L is (L1.take N0.length) ++ L1.drop N0.length) (M ++ M1) (cells + rm.cells) (slots + rm.slots) → Go p e below Q (T'.setTop (mkF m (pc + 3) Ls (v.toList ++ rest)))) (hy : y.cls ≠ "java/lang/invoke/MethodHandle" ∧ y.cls ≠ "java/lang/invoke/VarHandle" := by decide) (hz : Ls.size = maxl := by rfl) (hst : stk = argsL.reverse ++ .ref a :: rest := by rfl) (hlen : argsL.length = ps.length := by rfl) (has : (Value.ref a :: argsL).toArray = as' := by rfl) (hpk : OwnK.pick L is = N0 := by rfl) (his : is.Nodup := by decide) (hln : N0.length = is.length := by rfl) (hfr : rm.frames + 1 ≤ R.frames := by exact leD rfl) (hlo : (rest.map fun v => v.category).sum + (maxC + 11) + rm.locals ≤ R.locals := by exact leD rfl) (hcl : cells + rm.cells ≤ R.cells := by exact leD rfl) (hsl : slots + rm.slots ≤ R.slots := by exact leD rfl) : Go p e below Q (T.setTop (mkF m pc Ls stk)) :=
  C.callVirtual S E w1 w2 wn ws wi w3 w4 hy H hd _ rfl hz hpd argsL rest hst hlen has is hpk his hln hK hfr hlo hcl hsl k
theorem Cx.xf (C : Cx p s m meth c Z EL own bytes maxl ret nm) (S : St p l e R s m args below meth c Z EL h0 L0 T L M cells slots) {N0 K0 : HL} {Rel : Option Value → HL → HL → Prop} {rm : Room} {as' : Array Value} {bytesC : ByteArray} {maxC : Nat} {idx count : Nat} {y z : MethodName} {a : Addr} {K : String} {retC : Option FieldType} (E : Exa Z T.heap a K) (w1 : (Jvm.Cond.methodLink own idx y).before a0 Z = true) (w2 : (Jvm.Cond.declares y).before a0 Z = true) (wf : (Jvm.Cond.interfaceMethod y.cls y.cls y.name y.desc).before a0 Z = true) (hfa : ((Jvm.Cond.interfaceMethod y.cls y.cls y.name y.desc).onTables && (Jvm.Cond.interfaceMethod y.cls y.cls y.name y.desc).keepsFace) = true) (ws : (Jvm.Cond.selects K y z).before a0 Z = true) (wi : (Jvm.Cond.instanceMethod z).before a0 Z = true) (wp : (Jvm.Cond.publicMethod z).before a0 Z = true) (wu : (Jvm.Cond.unhidden K y.name y.desc).before a0 Z = true) (wc : (Jvm.Cond.castable K y.cls).before a0 Z = true) (w3 : (Jvm.Cond.initialized z.cls).before a0 Z = true) (w4 : (Jvm.Cond.code z bytesC maxC retC).before a0 Z = true)
    (H : Con l Z EL z bytesC maxC retC rm as' N0 K0 Rel) (hd : decode bytes pc = .ok (.invokeinterface idx count, 5)) {ps : List FieldType} {rt : Option FieldType} (hpd : parseMethodDescriptor y.desc = some ⟨ps, rt⟩) {stk : List Value} (argsL rest : List Value) (is : List Nat) (hK : RoL T.heap N0 K0)
    (k : ∀ (T' : State) (v : Option Value) (L1 M1 : HL), Rel v L1 M1 → (∀ x ∈ M1, RoN Z EL s.vm h0 x.1) → St p l e R s m args below meth c Z EL h0 L0 T' (puts L is (L1.take N0.length) ++ L1.drop N0.length) (M ++ M1) (cells + rm.cells) (slots + rm.slots) → Go p e below Q (T'.setTop (mkF m (pc + 5) Ls (v.toList ++ rest)))) (hy : y.cls ≠ "java/lang/invoke/MethodHandle" ∧ y.cls ≠ "java/lang/invoke/VarHandle" := by decide) (hz : Ls.size = maxl := by rfl) (hst : stk = argsL.reverse ++ .ref a :: rest := by rfl) (hlen : argsL.length = ps.length := by rfl) (has : (Value.ref a :: argsL).toArray = as' := by rfl) (hpk : OwnK.pick L is = N0 := by rfl) (his : is.Nodup := by decide) (hln : N0.length = is.length := by rfl) (hfr : rm.frames + 1 ≤ R.frames := by exact leD rfl) (hlo : (rest.map fun v => v.category).sum + (maxC + 11) + rm.locals ≤ R.locals := by exact leD rfl) (hcl : cells + rm.cells ≤ R.cells := by exact leD rfl) (hsl : slots + rm.slots ≤ R.slots := by exact leD rfl) : Go p e below Q (T.setTop (mkF m pc Ls stk)) :=
  C.callIface S E w1 w2 wf hfa ws wi wp wu wc w3 w4 hy H hd _ rfl hz hpd argsL rest hst hlen has is hpk his hln hK hfr hlo hcl hsl k
theorem Cx.g (C : Cx p s m meth c Z EL own bytes maxl ret nm) (S : St p l e R s m args below meth c Z EL h0 L0 T L M cells slots) {o : Int} (hd : decode bytes pc = .ok (.goto o, 3)) (pc' : Nat) (h : (pc : Int) + o = (pc' : Int)) (k : Go p e below Q (T.setTop (mkF m pc' Ls st))) : Go p e below Q (T.setTop (mkF m pc Ls st)) := C.goto S hd pc' (by rw [h]; exact Int.natCast_nonneg _) (by rw [h]; exact Int.toNat_natCast _) k
theorem Cx.gl (C : Cx p s m meth c Z EL own bytes maxl ret nm) (S : St p l e R s m args below meth c Z EL h0 L0 T L M cells slots) {idx : Nat} {R0 n d K : String} {a : Addr} {v : Value} {fs : List FV} (w : (Jvm.Cond.fieldLink own idx R0 n d).before a0 Z = true) (hd : decode bytes pc = .ok (.getfield idx, 3)) (i : Nat) (hi : nth L i = some (a, Obj Z K fs)) (j : Nat) (hj : nth fs j = some (R0, n, d, v))
    (k : ∀ T', St p l e R s m args below meth c Z EL h0 L0 T' L M cells slots → Go p e below Q (T'.setTop (mkF m (pc + 3) Ls (v :: st)))) : Go p e below Q (T.setTop (mkF m pc Ls (.ref a :: st))) := C.gf S w hd (S.fld i hi j hj) _ rfl k
theorem Cx.gm (C : Cx p s m meth c Z EL own bytes maxl ret nm) (S : St p l e R s m args below meth c Z EL h0 L0 T L M cells slots) {idx : Nat} {R0 n d K host : String} {a : Addr} {v : Value} {fs : List FV} (w : (Jvm.Cond.fieldLinkNest own idx R0 n d host).before a0 Z = true) (hd : decode bytes pc = .ok (.getfield idx, 3)) (i : Nat) (hi : nth M i = some (a, Obj Z K fs)) (j : Nat) (hj : nth fs j = some (R0, n, d, v))
    (k : ∀ T', St p l e R s m args below meth c Z EL h0 L0 T' L M cells slots → Go p e below Q (T'.setTop (mkF m (pc + 3) Ls (v :: st)))) : Go p e below Q (T.setTop (mkF m pc Ls (.ref a :: st))) := C.getfield S (Or.inr w) Via.refl hd (S.fldM i hi j hj) _ rfl k
theorem Cx.rV {Rel : Option Value → HL → HL → Prop} (C : Cx p s m meth c Z EL own bytes maxl none nm) (S : St p l e R s m args below meth c Z EL h0 L0 T L M cells slots) (hd : decode bytes pc = .ok (.return_, 1)) (is : List Nat) {L1 : HL} (hr : Rel none L1 []) (hp : OwnK.pick L is = L1 := by rfl) (his : is.Nodup := by decide) (ha : (adr L1).take L0.length = adr L0 := by rfl) (hc : cells ≤ R.cells := by exact leD rfl) (hs : slots ≤ R.slots := by exact leD rfl) : Go p e below (Qw R s Z EL h0 L0 Rel) (T.setTop (mkF m pc Ls [])) := C.retV S hd is hp his [] rfl fa0 hr ha hc hs
theorem Cx.rA {Rel : Option Value → HL → HL → Prop} {t : FieldType} {v : Value} (C : Cx p s m meth c Z EL own bytes maxl (some t) nm) (S : St p l e R s m args below meth c Z EL h0 L0 T L M cells slots) (ht : t.isReference = true) (hv : v.isRef = true) (hd : decode bytes pc = .ok (.areturn, 1)) (is : List Nat) {L1 : HL} (hr : Rel (some v) L1 []) (hp : OwnK.pick L is = L1 := by rfl) (his : is.Nodup := by decide) (ha : (adr L1).take L0.length = adr L0 := by rfl) (hc : cells ≤ R.cells := by exact leD rfl) (hs : slots ≤ R.slots := by exact leD rfl) : Go p e below (Qw R s Z EL h0 L0 Rel) (T.setTop (mkF m pc Ls (v :: st))) := C.retA S ht hv hd is hp his [] rfl fa0 hr ha hc hs
theorem Cx.rI {Rel : Option Value → HL → HL → Prop} {z : Int32} (C : Cx p s m meth c Z EL own bytes maxl (some .int) nm) (S : St p l e R s m args below meth c Z EL h0 L0 T L M cells slots) (hd : decode bytes pc = .ok (.ireturn, 1)) (is : List Nat) {L1 : HL} (hr : Rel (some (.int z)) L1 []) (hp : OwnK.pick L is = L1 := by rfl) (his : is.Nodup := by decide) (ha : (adr L1).take L0.length = adr L0 := by rfl) (hc : cells ≤ R.cells := by exact leD rfl) (hs : slots ≤ R.slots := by exact leD rfl) : Go p e below (Qw R s Z EL h0 L0 Rel) (T.setTop (mkF m pc Ls (.int z :: st))) := C.retI S hd is hp his [] rfl fa0 hr ha hc hs
theorem Cx.rN {Rel : Option Value → HL → HL → Prop} {t : FieldType} {z : Int32} (C : Cx p s m meth c Z EL own bytes maxl (some t) nm) (S : St p l e R s m args below meth c Z EL h0 L0 T L M cells slots) (hd : decode bytes pc = .ok (.ireturn, 1)) (z' : Int32) (hz : nar t z = z') (is : List Nat) {L1 : HL} (hr : Rel (some (.int z')) L1 []) (hp : OwnK.pick L is = L1 := by rfl) (his : is.Nodup := by decide) (ha : (adr L1).take L0.length = adr L0 := by rfl) (hc : cells ≤ R.cells := by exact leD rfl) (hs : slots ≤ R.slots := by exact leD rfl) (ht : t = .boolean ∨ t = .byte ∨ t = .char ∨ t = .short := by simp) : Go p e below (Qw R s Z EL h0 L0 Rel) (T.setTop (mkF m pc Ls (.int z :: st))) := C.retN S ht hd z' hz is hp his [] rfl fa0 hr ha hc hs
abbrev vr (a : Addr) : Slot := .val (.ref a)
abbrev vi (x : Int32) : Slot := .val (.int x)
abbrev us : Slot := .unset
theorem rlN {h : Heap} {x : Item} {K : HL} (lv : Live h x) (r : RoL h [] K) : RoL h [] (x :: K) := rlS lv List.not_mem_nil r
theorem St.n0 (S : St p l e R s m args below meth c Z EL h0 L0 T (puts L [] (List.take ([] : HL).length ([] : HL)) ++ List.drop ([] : HL).length ([] : HL)) (M ++ []) cells slots) : St p l e R s m args below meth c Z EL h0 L0 T L M cells slots := by
  have e : puts L [] (List.take ([] : HL).length ([] : HL)) ++ List.drop ([] : HL).length ([] : HL) = L := List.append_nil L
  rw [e, List.append_nil] at S; exact S
theorem St.na {L1 : HL} (S : St p l e R s m args below meth c Z EL h0 L0 T (puts L [] (List.take ([] : HL).length L1) ++ List.drop ([] : HL).length L1) (M ++ []) cells slots) : St p l e R s m args below meth c Z EL h0 L0 T (L ++ L1) M cells slots := by
  rw [List.append_nil] at S; exact S
theorem St.nc (S : St p l e R s m args below meth c Z EL h0 L0 T L (M ++ []) cells slots) {L' : HL} (h : L = L') : St p l e R s m args below meth c Z EL h0 L0 T L' M cells slots := by
  rw [List.append_nil] at S; exact h ▸ S
theorem St.asL (S : St p l e R s m args below meth c Z EL h0 L0 T L M cells slots) {L' : HL} (h : L = L') : St p l e R s m args below meth c Z EL h0 L0 T L' M cells slots := h ▸ S
theorem St.cut (S : St p l e R s m args below meth c Z EL h0 L0 T L M cells slots) {α : Type} {H : α → Prop} {f : α → State → State} {t : State} (k : ∀ (T' : State) (y : α), St p l e R s m args below meth c Z EL h0 L0 T' L M cells slots → H y → Go p e below Q (f y T')) (r : (∀ (T' : State) (y : α), St p l e R s m args below meth c Z EL h0 L0 T' L M cells slots → H y → Go p e below Q (f y T')) → Go p e below Q t) : Go p e below Q t := r k
theorem St.roA (S : St p l e R s m args below meth c Z EL h0 L0 T L M cells slots) (is : List Nat) {N0 : HL} (hpk : OwnK.pick L is = N0) : RoL T.heap N0 M := by
  obtain ⟨_, _, -, -, -, -, -, -, -, q⟩ := S
  subst hpk
  exact fun x hx => ⟨(q x hx).1, fun z => (q x hx).2 (by obtain ⟨y, hy, e⟩ := List.mem_map.mp z; obtain ⟨i, -, hi⟩ := pick_mem hy; exact e ▸ mem_adr (nth_mem hi))⟩
end Laws
end Jvm.OwnK
namespace Jvm.Pilot.@@N@@
open Jvm Jvm.ClassFile Sem Op Lib Jvm.Free Jvm.Stand Jvm.RoadKit Jvm.OwnK Bundle Jvm.Pilot.@@N@@.Jvm.D
abbrev Hw (a0 : Array Value) (Z : State) : Prop := ∀ d ∈ tables_1, d.before a0 Z = true
theorem W0 {a0 : Array Value} {Z : State} {d : Cond} (hw : Hw a0 Z) (i : Nat) (h : tables_1[i]? = some d) : d.before a0 Z = true := hw _ (List.mem_of_getElem? h)
abbrev Y0 : MethodName := ⟨"java/lang/String", "coder", "()B"⟩
abbrev Y1 : MethodName := ⟨"java/lang/String", "isLatin1", "()Z"⟩
abbrev Y2 : MethodName := ⟨"java/lang/Character", "isHighSurrogate", "(C)Z"⟩
abbrev Y3 : MethodName := ⟨"java/lang/Character", "isLowSurrogate", "(C)Z"⟩
abbrev Y4 : MethodName := ⟨"com/example/honest_errors/honesterrors/jsonschema/RegexAssemblerLiteralPinLaw", "isHigh", "(C)Z"⟩
abbrev Y5 : MethodName := ⟨"com/example/honest_errors/honesterrors/jsonschema/RegexAssemblerLiteralPinLaw", "isLow", "(C)Z"⟩
abbrev Y6 : MethodName := ⟨"java/lang/StringUTF16", "getChar", "([BI)C"⟩
abbrev Y7 : MethodName := ⟨"java/lang/StringUTF16", "newBytesLength", "(I)I"⟩
abbrev Y8 : MethodName := ⟨"java/lang/StringUTF16", "newBytesFor", "(I)[B"⟩
abbrev Y9 : MethodName := ⟨"java/lang/StringUTF16", "putChar", "([BII)V"⟩
abbrev Y10 : MethodName := ⟨"java/lang/StringUTF16", "toBytes", "([CII)[B"⟩
abbrev Y11 : MethodName := ⟨"java/lang/StringUTF16", "coderFromArrayLen", "([BI)B"⟩
abbrev Y12 : MethodName := ⟨"java/lang/StringUTF16", "compress", "([CI[BII)I"⟩
abbrev Y13 : MethodName := ⟨"java/lang/StringUTF16", "compress", "([CII)[B"⟩
abbrev Y14 : MethodName := ⟨"java/lang/String", "<init>", "([CIILjava/lang/Void;)V"⟩
abbrev Y15 : MethodName := ⟨"java/lang/String", "<init>", "([C)V"⟩
abbrev Y16 : MethodName := ⟨"jdk/internal/util/Preconditions", "checkIndex", "(IILjava/util/function/BiFunction;)I"⟩
abbrev Y17 : MethodName := ⟨"java/lang/String", "checkIndex", "(II)V"⟩
abbrev Y18 : MethodName := ⟨"java/lang/Character", "isSurrogate", "(C)Z"⟩
abbrev Y19 : MethodName := ⟨"java/lang/Character", "charCount", "(I)I"⟩
abbrev Y20 : MethodName := ⟨"java/lang/Character", "toCodePoint", "(CC)I"⟩
abbrev Y21 : MethodName := ⟨"java/lang/String", "length", "()I"⟩
abbrev Y22 : MethodName := ⟨"java/lang/StringLatin1", "charAt", "([BI)C"⟩
abbrev Y23 : MethodName := ⟨"java/lang/String", "charAt", "(I)C"⟩
abbrev Y24 : MethodName := ⟨"java/lang/String", "codePointAt", "(I)I"⟩
abbrev Y25 : MethodName := ⟨"java/lang/StringUTF16", "length", "([B)I"⟩
abbrev Y26 : MethodName := ⟨"java/lang/StringUTF16", "checkIndex", "(I[B)V"⟩
abbrev Y27 : MethodName := ⟨"java/lang/StringUTF16", "charAt", "([BI)C"⟩
abbrev Y28 : MethodName := ⟨"java/lang/StringUTF16", "codePointAt", "([BIIZ)I"⟩
abbrev Y29 : MethodName := ⟨"java/lang/StringUTF16", "codePointAt", "([BII)I"⟩
abbrev Y30 : MethodName := ⟨"java/util/AbstractCollection", "<init>", "()V"⟩
abbrev Y31 : MethodName := ⟨"java/util/AbstractList", "<init>", "()V"⟩
abbrev Y32 : MethodName := ⟨"java/util/ArrayList", "<init>", "()V"⟩
abbrev Y33 : MethodName := ⟨"java/util/AbstractMap", "<init>", "()V"⟩
abbrev Y34 : MethodName := ⟨"java/util/HashMap", "<init>", "()V"⟩
abbrev Y35 : MethodName := ⟨"com/example/honest_errors/honesterrors/jsonschema/RegexAssembler", "<init>", "()V"⟩
abbrev Y36 : MethodName := ⟨"com/example/honest_errors/honesterrors/jsonschema/RegexAssembler", "node", "(BIIII)I"⟩
abbrev Y37 : MethodName := ⟨"com/example/honest_errors/honesterrors/jsonschema/RegexAssembler$Fragment", "<init>", "()V"⟩
abbrev Y38 : MethodName := ⟨"com/example/honest_errors/honesterrors/jsonschema/RegexAssembler", "addHole", "(Lcom/example/honest_errors/honesterrors/jsonschema/RegexAssembler$Fragment;I)V"⟩
abbrev Y39 : MethodName := ⟨"com/example/honest_errors/honesterrors/jsonschema/RegexAssembler", "literal", "(I)Lcom/example/honest_errors/honesterrors/jsonschema/RegexAssembler$Fragment;"⟩
abbrev Y40 : MethodName := ⟨"com/example/honest_errors/honesterrors/jsonschema/RegexAssembler", "single", "(I)Lcom/example/honest_errors/honesterrors/jsonschema/RegexAssembler$Fragment;"⟩
abbrev Y41 : MethodName := ⟨"com/example/honest_errors/honesterrors/jsonschema/RegexAssembler", "run", "(Lcom/example/honest_errors/honesterrors/jsonschema/RegexAssembler$Fragment;III)Lcom/example/honest_errors/honesterrors/jsonschema/RegexAssembler$Fragment;"⟩
abbrev Y42 : MethodName := ⟨"com/example/honest_errors/honesterrors/jsonschema/RegexAssembler", "quantify", "(Lcom/example/honest_errors/honesterrors/jsonschema/RegexAssembler$Fragment;III)Lcom/example/honest_errors/honesterrors/jsonschema/RegexAssembler$Fragment;"⟩
abbrev Y43 : MethodName := ⟨"com/example/honest_errors/honesterrors/jsonschema/RegexAssembler", "patch", "(Lcom/example/honest_errors/honesterrors/jsonschema/RegexAssembler$Fragment;I)V"⟩
abbrev Y44 : MethodName := ⟨"com/example/honest_errors/honesterrors/jsonschema/RegexAssembler", "program", "(Lcom/example/honest_errors/honesterrors/jsonschema/RegexAssembler$Fragment;)I"⟩
abbrev Y45 : MethodName := ⟨"com/example/honest_errors/honesterrors/jsonschema/RegexAssembler", "skipNops", "(I)I"⟩
abbrev Y46 : MethodName := ⟨"com/example/honest_errors/honesterrors/jsonschema/RegexAssembler", "leadsToNode", "(B)Z"⟩
abbrev Y47 : MethodName := ⟨"java/util/ArrayList", "isEmpty", "()Z"⟩
abbrev Y48 : MethodName := ⟨"java/lang/Math", "min", "(II)I"⟩
abbrev Y49 : MethodName := ⟨"java/util/Arrays", "copyOf", "([II)[I"⟩
abbrev Y50 : MethodName := ⟨"java/util/Arrays", "copyOf", "([BI)[B"⟩
abbrev Y51 : MethodName := ⟨"java/util/ArrayList", "toArray", "([Ljava/lang/Object;)[Ljava/lang/Object;"⟩
abbrev Y52 : MethodName := ⟨"com/example/honest_errors/honesterrors/jsonschema/RegexProgram", "<init>", "([B[[I[Lcom/example/honest_errors/honesterrors/jsonschema/RegexLeaf;I[IIII)V"⟩
abbrev Y53 : MethodName := ⟨"com/example/honest_errors/honesterrors/jsonschema/RegexAssembler", "finish", "(Lcom/example/honest_errors/honesterrors/jsonschema/RegexAssembler$Fragment;ZI)Lcom/example/honest_errors/honesterrors/jsonschema/RegexProgram;"⟩
abbrev Y54 : MethodName := ⟨"com/example/honest_errors/honesterrors/jsonschema/RegexProgram$Search", "end", "(II)I"⟩
abbrev Y55 : MethodName := ⟨"com/example/honest_errors/honesterrors/jsonschema/RegexProgram$Search", "backtrack", "(I)I"⟩
abbrev Y56 : MethodName := ⟨"com/example/honest_errors/honesterrors/jsonschema/RegexProgram$Search", "undo", "(I)V"⟩
abbrev Y57 : MethodName := ⟨"com/example/honest_errors/honesterrors/jsonschema/RegexProgram$Search", "passOver", "(IIIZ)I"⟩
abbrev Y58 : MethodName := ⟨"com/example/honest_errors/honesterrors/jsonschema/RegexProgram$Search", "find", "()Z"⟩
abbrev Y59 : MethodName := ⟨"com/example/honest_errors/honesterrors/jsonschema/RegexProgram$Search", "consume", "(I)Z"⟩
abbrev Y60 : MethodName := ⟨"com/example/honest_errors/honesterrors/jsonschema/RegexProgram$Search", "step", "(II)I"⟩
abbrev Y61 : MethodName := ⟨"com/example/honest_errors/honesterrors/jsonschema/RegexProgram$Search", "repeat", "(I)Z"⟩
abbrev Y62 : MethodName := ⟨"com/example/honest_errors/honesterrors/jsonschema/RegexProgram$Search", "run", "(III)I"⟩
abbrev Y63 : MethodName := ⟨"java/util/Arrays", "rangeCheck", "(III)V"⟩
abbrev Y64 : MethodName := ⟨"java/util/Arrays", "fill", "([IIII)V"⟩
abbrev Y65 : MethodName := ⟨"com/example/honest_errors/honesterrors/jsonschema/RegexProgram$Search", "<init>", "(Lcom/example/honest_errors/honesterrors/jsonschema/RegexProgram;Ljava/lang/String;)V"⟩
abbrev Y66 : MethodName := ⟨"com/example/honest_errors/honesterrors/jsonschema/RegexProgram", "find", "(Ljava/lang/String;)Z"⟩
abbrev Y67 : MethodName := ⟨"com/example/honest_errors/honesterrors/jsonschema/RegexAssemblerLiteralPinLaw", "matchesAt", "([CIIICC)Z"⟩
abbrev Y68 : MethodName := ⟨"com/example/honest_errors/honesterrors/jsonschema/RegexAssemblerLiteralPinLaw", "draw", "(ICCI)C"⟩
section Rows
variable {pc ln : Nat} {ins : Instr}
def tD0 : List (Nat × Instr × Nat) := [(0, .getstatic 38, 3), (3, .ifCond .eq 10, 3), (6, .aload_n 0, 1), (7, .getfield 15, 3), (10, .goto 4, 3), (14, .ireturn, 1)]
theorem D0 (i : Nat) (h : nth tD0 i = some (pc, ins, ln)) : decode jdk_42_method_152_code pc = .ok (ins, ln) := dcT (by decide +kernel) i h
def tD1 : List (Nat × Instr × Nat) := [(0, .getstatic 38, 3), (3, .ifCond .eq 14, 3), (6, .aload_n 0, 1), (7, .getfield 15, 3), (10, .ifCond .ne 7, 3), (13, .iconst 1, 1), (14, .goto 4, 3), (18, .ireturn, 1), (17, .iconst 0, 1)]
theorem D1 (i : Nat) (h : nth tD1 i = some (pc, ins, ln)) : decode jdk_42_method_154_code pc = .ok (ins, ln) := dcT (by decide +kernel) i h
def tD2 : List (Nat × Instr × Nat) := [(0, .iload_n 0, 1), (1, .ldc 75, 2), (3, .if_icmp .lt 13, 3), (16, .iconst 0, 1), (17, .ireturn, 1), (6, .iload_n 0, 1), (7, .ldc 76, 2), (9, .if_icmp .ge 7, 3), (12, .iconst 1, 1), (13, .goto 4, 3)]
theorem D2 (i : Nat) (h : nth tD2 i = some (pc, ins, ln)) : decode jdk_89_method_14_code pc = .ok (ins, ln) := dcT (by decide +kernel) i h
def tD3 : List (Nat × Instr × Nat) := [(0, .iload_n 0, 1), (1, .ldc 76, 2), (3, .if_icmp .lt 13, 3), (16, .iconst 0, 1), (17, .ireturn, 1), (6, .iload_n 0, 1), (7, .ldc 77, 2), (9, .if_icmp .ge 7, 3), (12, .iconst 1, 1), (13, .goto 4, 3)]
theorem D3 (i : Nat) (h : nth tD3 i = some (pc, ins, ln)) : decode jdk_89_method_15_code pc = .ok (ins, ln) := dcT (by decide +kernel) i h
def tD4 : List (Nat × Instr × Nat) := [(0, .iload_n 0, 1), (1, .ldc 10, 2), (3, .if_icmp .lt 13, 3), (16, .iconst 0, 1), (17, .ireturn, 1), (6, .iload_n 0, 1), (7, .ldc 49, 2), (9, .if_icmp .gt 7, 3), (12, .iconst 1, 1), (13, .goto 4, 3)]
theorem D4 (i : Nat) (h : nth tD4 i = some (pc, ins, ln)) : decode method_4_code pc = .ok (ins, ln) := dcT (by decide +kernel) i h
def tD5 : List (Nat × Instr × Nat) := [(0, .iload_n 0, 1), (1, .ldc 11, 2), (3, .if_icmp .lt 13, 3), (16, .iconst 0, 1), (17, .ireturn, 1), (6, .iload_n 0, 1), (7, .ldc 50, 2), (9, .if_icmp .gt 7, 3), (12, .iconst 1, 1), (13, .goto 4, 3)]
theorem D5 (i : Nat) (h : nth tD5 i = some (pc, ins, ln)) : decode method_5_code pc = .ok (ins, ln) := dcT (by decide +kernel) i h
def tD6 : List (Nat × Instr × Nat) := [(0, .getstatic 44, 3), (3, .ifCond .ne 25, 3), (28, .iload_n 1, 1), (29, .iconst 1, 1), (30, .ishl, 1), (31, .istore_n 1, 1), (32, .aload_n 0, 1), (33, .iload_n 1, 1), (34, .iinc 1 1, 3), (37, .baload, 1), (38, .sipush 255, 3), (41, .iand, 1), (42, .getstatic 59, 3), (45, .ishl, 1), (46, .aload_n 0, 1), (47, .iload_n 1, 1), (48, .baload, 1), (49, .sipush 255, 3), (52, .iand, 1), (53, .getstatic 63, 3), (56, .ishl, 1), (57, .ior, 1), (58, .i2c, 1), (59, .ireturn, 1)]
theorem D6 (i : Nat) (h : nth tD6 i = some (pc, ins, ln)) : decode jdk_52_method_5_code pc = .ok (ins, ln) := dcT (by decide +kernel) i h
def tD7 : List (Nat × Instr × Nat) := [(0, .iload_n 0, 1), (1, .ifCond .ge 11, 3), (12, .iload_n 0, 1), (13, .ldc 20, 2), (15, .if_icmp .lt 40, 3), (55, .iload_n 0, 1), (56, .iconst 1, 1), (57, .ishl, 1), (58, .ireturn, 1)]
theorem D7 (i : Nat) (h : nth tD7 i = some (pc, ins, ln)) : decode jdk_52_method_3_code pc = .ok (ins, ln) := dcT (by decide +kernel) i h
def tD8 : List (Nat × Instr × Nat) := [(0, .iload_n 0, 1), (1, .invokestatic 11, 3), (4, .newarray .byte, 2), (6, .areturn, 1)]
theorem D8 (i : Nat) (h : nth tD8 i = some (pc, ins, ln)) : decode jdk_52_method_2_code pc = .ok (ins, ln) := dcT (by decide +kernel) i h
def tD9 : List (Nat × Instr × Nat) := [(0, .getstatic 44, 3), (3, .ifCond .ne 25, 3), (28, .iload_n 1, 1), (29, .iconst 1, 1), (30, .ishl, 1), (31, .istore_n 1, 1), (32, .aload_n 0, 1), (33, .iload_n 1, 1), (34, .iinc 1 1, 3), (37, .iload_n 2, 1), (38, .getstatic 59, 3), (41, .ishr, 1), (42, .i2b, 1), (43, .bastore, 1), (44, .aload_n 0, 1), (45, .iload_n 1, 1), (46, .iload_n 2, 1), (47, .getstatic 63, 3), (50, .ishr, 1), (51, .i2b, 1), (52, .bastore, 1), (53, .return_, 1)]
theorem D9 (i : Nat) (h : nth tD9 i = some (pc, ins, ln)) : decode jdk_52_method_4_code pc = .ok (ins, ln) := dcT (by decide +kernel) i h
def tD10 : List (Nat × Instr × Nat) := [(0, .iload_n 2, 1), (1, .invokestatic 107, 3), (4, .astore_n 3, 1), (5, .iconst 0, 1), (6, .istore 4, 2), (8, .iload 4, 2), (10, .iload_n 2, 1), (11, .if_icmp .ge 21, 3), (14, .aload_n 3, 1), (15, .iload 4, 2), (17, .aload_n 0, 1), (18, .iload_n 1, 1), (19, .caload, 1), (20, .invokestatic 111, 3), (23, .iinc 1 1, 3), (26, .iinc 4 1, 3), (29, .goto (-21), 3), (32, .aload_n 3, 1), (33, .areturn, 1)]
theorem D10 (i : Nat) (h : nth tD10 i = some (pc, ins, ln)) : decode jdk_52_method_14_code pc = .ok (ins, ln) := dcT (by decide +kernel) i h
def tD11 : List (Nat × Instr × Nat) := [(0, .iload_n 1, 1), (1, .aload_n 0, 1), (2, .arraylength, 1), (3, .isub, 1), (4, .bipush 31, 2), (6, .iushr, 1), (7, .i2b, 1), (8, .ireturn, 1)]
theorem D11 (i : Nat) (h : nth tD11 i = some (pc, ins, ln)) : decode jdk_52_method_15_code pc = .ok (ins, ln) := dcT (by decide +kernel) i h
def tD12 : List (Nat × Instr × Nat) := [(0, .iconst 0, 1), (1, .istore 5, 2), (3, .iload 5, 2), (5, .iload 4, 2), (7, .if_icmp .ge 37, 3), (10, .aload_n 0, 1), (11, .iload_n 1, 1), (12, .caload, 1), (13, .istore 6, 2), (15, .iload 6, 2), (17, .sipush 255, 3), (20, .if_icmp .le 6, 3), (23, .iload 5, 2), (25, .ireturn, 1), (26, .aload_n 2, 1), (27, .iload_n 3, 1), (28, .iload 6, 2), (30, .i2b, 1), (31, .bastore, 1), (32, .iinc 1 1, 3), (35, .iinc 3 1, 3), (38, .iinc 5 1, 3), (41, .goto (-38), 3), (44, .iload 4, 2), (46, .ireturn, 1)]
theorem D12 (i : Nat) (h : nth tD12 i = some (pc, ins, ln)) : decode jdk_52_method_21_code pc = .ok (ins, ln) := dcT (by decide +kernel) i h
def tD13 : List (Nat × Instr × Nat) := [(0, .iload_n 2, 1), (1, .newarray .byte, 2), (3, .astore_n 3, 1), (4, .aload_n 0, 1), (5, .iload_n 1, 1), (6, .aload_n 3, 1), (7, .iconst 0, 1), (8, .iload_n 2, 1), (9, .invokestatic 115, 3), (12, .istore 4, 2), (14, .iload 4, 2), (16, .iload_n 2, 1), (17, .if_icmp .eq 40, 3), (20, .aload_n 0, 1), (21, .iload_n 1, 1), (22, .iload_n 2, 1), (23, .invokestatic 119, 3), (26, .astore 5, 2), (28, .aload 5, 2), (30, .iload 4, 2), (32, .invokestatic 71, 3), (35, .sipush 255, 3), (38, .if_icmp .gt 16, 3), (54, .aload 5, 2), (56, .areturn, 1), (57, .aload_n 3, 1), (58, .areturn, 1)]
theorem D13 (i : Nat) (h : nth tD13 i = some (pc, ins, ln)) : decode jdk_52_method_16_code pc = .ok (ins, ln) := dcT (by decide +kernel) i h
def tD14 : List (Nat × Instr × Nat) := [(0, .aload_n 0, 1), (1, .invokespecial 1, 3), (4, .iload_n 3, 1), (5, .ifCond .ne 22, 3), (27, .getstatic 38, 3), (30, .ifCond .eq 28, 3), (33, .aload_n 1, 1), (34, .iload_n 2, 1), (35, .iload_n 3, 1), (36, .invokestatic 177, 3), (39, .astore 5, 2), (41, .aload_n 0, 1), (42, .aload 5, 2), (44, .iload_n 3, 1), (45, .invokestatic 47, 3), (48, .putfield 15, 3), (51, .aload_n 0, 1), (52, .aload 5, 2), (54, .putfield 9, 3), (57, .return_, 1), (8, .aload_n 0, 1), (9, .ldc 7, 2), (11, .getfield 9, 3), (14, .putfield 9, 3), (17, .aload_n 0, 1), (18, .ldc 7, 2), (20, .getfield 15, 3), (23, .putfield 15, 3), (26, .return_, 1)]
theorem D14 (i : Nat) (h : nth tD14 i = some (pc, ins, ln)) : decode jdk_42_method_149_code pc = .ok (ins, ln) := dcT (by decide +kernel) i h
def tD15 : List (Nat × Instr × Nat) := [(0, .aload_n 0, 1), (1, .aload_n 1, 1), (2, .iconst 0, 1), (3, .aload_n 1, 1), (4, .arraylength, 1), (5, .aconst_null, 1), (6, .invokespecial 27, 3), (9, .return_, 1)]
theorem D15 (i : Nat) (h : nth tD15 i = some (pc, ins, ln)) : decode jdk_42_method_3_code pc = .ok (ins, ln) := dcT (by decide +kernel) i h
def tD16 : List (Nat × Instr × Nat) := [(0, .iload_n 0, 1), (1, .ifCond .lt 8, 3), (4, .iload_n 0, 1), (5, .iload_n 1, 1), (6, .if_icmp .lt 10, 3), (16, .iload_n 0, 1), (17, .ireturn, 1)]
theorem D16 (i : Nat) (h : nth tD16 i = some (pc, ins, ln)) : decode jdk_41_method_11_code pc = .ok (ins, ln) := dcT (by decide +kernel) i h
def tD17 : List (Nat × Instr × Nat) := [(0, .iload_n 0, 1), (1, .iload_n 1, 1), (2, .getstatic 1053, 3), (5, .invokestatic 1059, 3), (8, .pop, 1), (9, .return_, 1)]
theorem D17 (i : Nat) (h : nth tD17 i = some (pc, ins, ln)) : decode jdk_42_method_155_code pc = .ok (ins, ln) := dcT (by decide +kernel) i h
def tD18 : List (Nat × Instr × Nat) := [(0, .iload_n 0, 1), (1, .ldc 75, 2), (3, .if_icmp .lt 13, 3), (16, .iconst 0, 1), (17, .ireturn, 1), (6, .iload_n 0, 1), (7, .ldc 77, 2), (9, .if_icmp .ge 7, 3), (12, .iconst 1, 1), (13, .goto 4, 3)]
theorem D18 (i : Nat) (h : nth tD18 i = some (pc, ins, ln)) : decode jdk_89_method_16_code pc = .ok (ins, ln) := dcT (by decide +kernel) i h
def tD19 : List (Nat × Instr × Nat) := [(0, .iload_n 0, 1), (1, .ldc 73, 2), (3, .if_icmp .lt 7, 3), (10, .iconst 1, 1), (11, .ireturn, 1), (6, .iconst 2, 1), (7, .goto 4, 3)]
theorem D19 (i : Nat) (h : nth tD19 i = some (pc, ins, ln)) : decode jdk_89_method_18_code pc = .ok (ins, ln) := dcT (by decide +kernel) i h
def tD20 : List (Nat × Instr × Nat) := [(0, .iload_n 0, 1), (1, .bipush 10, 2), (3, .ishl, 1), (4, .iload_n 1, 1), (5, .iadd, 1), (6, .ldc 85, 2), (8, .iadd, 1), (9, .ireturn, 1)]
theorem D20 (i : Nat) (h : nth tD20 i = some (pc, ins, ln)) : decode jdk_89_method_19_code pc = .ok (ins, ln) := dcT (by decide +kernel) i h
def tD21 : List (Nat × Instr × Nat) := [(0, .aload_n 0, 1), (1, .getfield 9, 3), (4, .arraylength, 1), (5, .aload_n 0, 1), (6, .invokevirtual 335, 3), (9, .ishr, 1), (10, .ireturn, 1)]
theorem D21 (i : Nat) (h : nth tD21 i = some (pc, ins, ln)) : decode jdk_42_method_54_code pc = .ok (ins, ln) := dcT (by decide +kernel) i h
def tD22 : List (Nat × Instr × Nat) := [(0, .iload_n 1, 1), (1, .aload_n 0, 1), (2, .arraylength, 1), (3, .invokestatic 9, 3), (6, .aload_n 0, 1), (7, .iload_n 1, 1), (8, .baload, 1), (9, .sipush 255, 3), (12, .iand, 1), (13, .i2c, 1), (14, .ireturn, 1)]
theorem D22 (i : Nat) (h : nth tD22 i = some (pc, ins, ln)) : decode jdk_43_method_2_code pc = .ok (ins, ln) := dcT (by decide +kernel) i h
def tD23 : List (Nat × Instr × Nat) := [(0, .aload_n 0, 1), (1, .invokevirtual 492, 3), (4, .ifCond .eq 12, 3), (7, .aload_n 0, 1), (8, .getfield 9, 3), (11, .iload_n 1, 1), (12, .invokestatic 495, 3), (15, .ireturn, 1), (16, .aload_n 0, 1), (17, .getfield 9, 3), (20, .iload_n 1, 1), (21, .invokestatic 498, 3), (24, .ireturn, 1)]
theorem D23 (i : Nat) (h : nth tD23 i = some (pc, ins, ln)) : decode jdk_42_method_56_code pc = .ok (ins, ln) := dcT (by decide +kernel) i h
def tD24 : List (Nat × Instr × Nat) := [(0, .aload_n 0, 1), (1, .invokevirtual 492, 3), (4, .ifCond .eq 23, 3), (7, .iload_n 1, 1), (8, .aload_n 0, 1), (9, .getfield 9, 3), (12, .arraylength, 1), (13, .invokestatic 499, 3), (16, .aload_n 0, 1), (17, .getfield 9, 3), (20, .iload_n 1, 1), (21, .baload, 1), (22, .sipush 255, 3), (25, .iand, 1), (26, .ireturn, 1), (27, .aload_n 0, 1), (28, .getfield 9, 3), (31, .arraylength, 1), (32, .iconst 1, 1), (33, .ishr, 1), (34, .istore_n 2, 1), (35, .iload_n 1, 1), (36, .iload_n 2, 1), (37, .invokestatic 499, 3), (40, .aload_n 0, 1), (41, .getfield 9, 3), (44, .iload_n 1, 1), (45, .iload_n 2, 1), (46, .invokestatic 502, 3), (49, .ireturn, 1)]
theorem D24 (i : Nat) (h : nth tD24 i = some (pc, ins, ln)) : decode jdk_42_method_57_code pc = .ok (ins, ln) := dcT (by decide +kernel) i h
def tD25 : List (Nat × Instr × Nat) := [(0, .aload_n 0, 1), (1, .arraylength, 1), (2, .iconst 1, 1), (3, .ishr, 1), (4, .ireturn, 1)]
theorem D25 (i : Nat) (h : nth tD25 i = some (pc, ins, ln)) : decode jdk_52_method_6_code pc = .ok (ins, ln) := dcT (by decide +kernel) i h
def tD26 : List (Nat × Instr × Nat) := [(0, .iload_n 0, 1), (1, .aload_n 1, 1), (2, .invokestatic 48, 3), (5, .invokestatic 414, 3), (8, .return_, 1)]
theorem D26 (i : Nat) (h : nth tD26 i = some (pc, ins, ln)) : decode jdk_52_method_91_code pc = .ok (ins, ln) := dcT (by decide +kernel) i h
def tD27 : List (Nat × Instr × Nat) := [(0, .iload_n 1, 1), (1, .aload_n 0, 1), (2, .invokestatic 67, 3), (5, .aload_n 0, 1), (6, .iload_n 1, 1), (7, .invokestatic 71, 3), (10, .ireturn, 1)]
theorem D27 (i : Nat) (h : nth tD27 i = some (pc, ins, ln)) : decode jdk_52_method_83_code pc = .ok (ins, ln) := dcT (by decide +kernel) i h
def tD28 : List (Nat × Instr × Nat) := [(0, .getstatic 44, 3), (3, .ifCond .ne 16, 3), (19, .iload_n 3, 1), (20, .ifCond .eq 8, 3), (28, .aload_n 0, 1), (29, .iload_n 1, 1), (30, .invokestatic 71, 3), (33, .istore 4, 2), (35, .iload 4, 2), (37, .invokestatic 75, 3), (40, .ifCond .eq 43, 3), (83, .iload 4, 2), (85, .ireturn, 1), (43, .iinc 1 1, 3), (46, .iload_n 1, 1), (47, .iload_n 2, 1), (48, .if_icmp .ge 35, 3), (51, .iload_n 3, 1), (52, .ifCond .eq 8, 3), (60, .aload_n 0, 1), (61, .iload_n 1, 1), (62, .invokestatic 71, 3), (65, .istore 5, 2), (67, .iload 5, 2), (69, .invokestatic 81, 3), (72, .ifCond .eq 11, 3), (75, .iload 4, 2), (77, .iload 5, 2), (79, .invokestatic 84, 3), (82, .ireturn, 1)]
theorem D28 (i : Nat) (h : nth tD28 i = some (pc, ins, ln)) : decode jdk_52_method_7_code pc = .ok (ins, ln) := dcT (by decide +kernel) i h
def tD29 : List (Nat × Instr × Nat) := [(0, .aload_n 0, 1), (1, .iload_n 1, 1), (2, .iload_n 2, 1), (3, .iconst 0, 1), (4, .invokestatic 88, 3), (7, .ireturn, 1)]
theorem D29 (i : Nat) (h : nth tD29 i = some (pc, ins, ln)) : decode jdk_52_method_8_code pc = .ok (ins, ln) := dcT (by decide +kernel) i h
def tD30 : List (Nat × Instr × Nat) := [(0, .aload_n 0, 1), (1, .invokespecial 1, 3), (4, .return_, 1)]
theorem D30 (i : Nat) (h : nth tD30 i = some (pc, ins, ln)) : decode jdk_22_method_1_code pc = .ok (ins, ln) := dcT (by decide +kernel) i h
def tD31 : List (Nat × Instr × Nat) := [(0, .aload_n 0, 1), (1, .invokespecial 1, 3), (4, .aload_n 0, 1), (5, .iconst 0, 1), (6, .putfield 7, 3), (9, .return_, 1)]
theorem D31 (i : Nat) (h : nth tD31 i = some (pc, ins, ln)) : decode jdk_39_method_1_code pc = .ok (ins, ln) := dcT (by decide +kernel) i h
def tD32 : List (Nat × Instr × Nat) := [(0, .aload_n 0, 1), (1, .invokespecial 1, 3), (4, .aload_n 0, 1), (5, .getstatic 39, 3), (8, .putfield 9, 3), (11, .return_, 1)]
theorem D32 (i : Nat) (h : nth tD32 i = some (pc, ins, ln)) : decode jdk_38_method_2_code pc = .ok (ins, ln) := dcT (by decide +kernel) i h
def tD33 : List (Nat × Instr × Nat) := [(0, .aload_n 0, 1), (1, .invokespecial 1, 3), (4, .return_, 1)]
theorem D33 (i : Nat) (h : nth tD33 i = some (pc, ins, ln)) : decode jdk_71_method_1_code pc = .ok (ins, ln) := dcT (by decide +kernel) i h
def tD34 : List (Nat × Instr × Nat) := [(0, .aload_n 0, 1), (1, .invokespecial 43, 3), (4, .aload_n 0, 1), (5, .ldc 92, 2), (7, .putfield 81, 3), (10, .return_, 1)]
theorem D34 (i : Nat) (h : nth tD34 i = some (pc, ins, ln)) : decode jdk_69_method_7_code pc = .ok (ins, ln) := dcT (by decide +kernel) i h
def tD35 : List (Nat × Instr × Nat) := [(0, .aload_n 0, 1), (1, .invokespecial 3, 3), (4, .aload_n 0, 1), (5, .bipush 16, 2), (7, .newarray .byte, 2), (9, .putfield 9, 3), (12, .aload_n 0, 1), (13, .iconst 5, 1), (14, .bipush 16, 2), (16, .multianewarray 15 2, 4), (20, .putfield 17, 3), (23, .aload_n 0, 1), (24, .new 20, 3), (27, .dup, 1), (28, .invokespecial 22, 3), (31, .putfield 23, 3), (34, .aload_n 0, 1), (35, .new 27, 3), (38, .dup, 1), (39, .invokespecial 29, 3), (42, .putfield 30, 3), (45, .aload_n 0, 1), (46, .new 20, 3), (49, .dup, 1), (50, .invokespecial 22, 3), (53, .putfield 34, 3), (56, .return_, 1)]
theorem D35 (i : Nat) (h : nth tD35 i = some (pc, ins, ln)) : decode prog_28_method_1_code pc = .ok (ins, ln) := dcT (by decide +kernel) i h
def tD36 : List (Nat × Instr × Nat) := [(0, .aload_n 0, 1), (1, .getfield 172, 3), (4, .aload_n 0, 1), (5, .getfield 9, 3), (8, .arraylength, 1), (9, .if_icmp .ne 66, 3), (75, .aload_n 0, 1), (76, .getfield 9, 3), (79, .aload_n 0, 1), (80, .getfield 172, 3), (83, .iload_n 1, 1), (84, .bastore, 1), (85, .aload_n 0, 1), (86, .getfield 17, 3), (89, .iconst 0, 1), (90, .aaload, 1), (91, .aload_n 0, 1), (92, .getfield 172, 3), (95, .iconst (-1), 1), (96, .iastore, 1), (97, .aload_n 0, 1), (98, .getfield 17, 3), (101, .iconst 1, 1), (102, .aaload, 1), (103, .aload_n 0, 1), (104, .getfield 172, 3), (107, .iload_n 2, 1), (108, .iastore, 1), (109, .aload_n 0, 1), (110, .getfield 17, 3), (113, .iconst 2, 1), (114, .aaload, 1), (115, .aload_n 0, 1), (116, .getfield 172, 3), (119, .iload_n 3, 1), (120, .iastore, 1), (121, .aload_n 0, 1), (122, .getfield 17, 3), (125, .iconst 3, 1), (126, .aaload, 1), (127, .aload_n 0, 1), (128, .getfield 172, 3), (131, .iload 4, 2), (133, .iastore, 1), (134, .aload_n 0, 1), (135, .getfield 17, 3), (138, .iconst 4, 1), (139, .aaload, 1), (140, .aload_n 0, 1), (141, .getfield 172, 3), (144, .iload 5, 2), (146, .iastore, 1), (147, .aload_n 0, 1), (148, .dup, 1), (149, .getfield 172, 3), (152, .dup_x1, 1), (153, .iconst 1, 1), (154, .iadd, 1), (155, .putfield 172, 3), (158, .ireturn, 1)]
theorem D36 (i : Nat) (h : nth tD36 i = some (pc, ins, ln)) : decode prog_28_method_32_code pc = .ok (ins, ln) := dcT (by decide +kernel) i h
def tD37 : List (Nat × Instr × Nat) := [(0, .aload_n 0, 1), (1, .invokespecial 3, 3), (4, .aload_n 0, 1), (5, .iconst (-1), 1), (6, .putfield 9, 3), (9, .aload_n 0, 1), (10, .iconst (-1), 1), (11, .putfield 15, 3), (14, .aload_n 0, 1), (15, .iconst (-1), 1), (16, .putfield 18, 3), (19, .aload_n 0, 1), (20, .ldc 21, 2), (22, .putfield 22, 3), (25, .aload_n 0, 1), (26, .iconst 1, 1), (27, .putfield 25, 3), (30, .return_, 1)]
theorem D37 (i : Nat) (h : nth tD37 i = some (pc, ins, ln)) : decode prog_29_method_1_code pc = .ok (ins, ln) := dcT (by decide +kernel) i h
def tD38 : List (Nat × Instr × Nat) := [(0, .iload_n 2, 1), (1, .ifCond .ge 4, 3), (5, .aload_n 0, 1), (6, .getfield 17, 3), (9, .iload_n 2, 1), (10, .iconst 1, 1), (11, .iand, 1), (12, .aaload, 1), (13, .iload_n 2, 1), (14, .iconst 1, 1), (15, .ishr, 1), (16, .iconst (-1), 1), (17, .iastore, 1), (18, .aload_n 1, 1), (19, .getfield 88, 3), (22, .ifCond .ge 11, 3), (25, .aload_n 1, 1), (26, .iload_n 2, 1), (27, .putfield 88, 3), (30, .goto 22, 3), (52, .aload_n 1, 1), (53, .iload_n 2, 1), (54, .putfield 91, 3), (57, .return_, 1)]
theorem D38 (i : Nat) (h : nth tD38 i = some (pc, ins, ln)) : decode prog_28_method_36_code pc = .ok (ins, ln) := dcT (by decide +kernel) i h
def tD39 : List (Nat × Instr × Nat) := [(0, .new 37, 3), (3, .dup, 1), (4, .invokespecial 39, 3), (7, .astore_n 2, 1), (8, .aload_n 2, 1), (9, .iload_n 1, 1), (10, .putfield 75, 3), (13, .aload_n 0, 1), (14, .aload_n 2, 1), (15, .iload_n 1, 1), (16, .iconst 1, 1), (17, .ishl, 1), (18, .invokevirtual 78, 3), (21, .aload_n 2, 1), (22, .areturn, 1)]
theorem D39 (i : Nat) (h : nth tD39 i = some (pc, ins, ln)) : decode prog_28_method_30_code pc = .ok (ins, ln) := dcT (by decide +kernel) i h
def tD40 : List (Nat × Instr × Nat) := [(0, .aload_n 0, 1), (1, .aload_n 0, 1), (2, .iconst 1, 1), (3, .iload_n 1, 1), (4, .iconst 0, 1), (5, .iconst 0, 1), (6, .iconst 0, 1), (7, .invokevirtual 42, 3), (10, .invokevirtual 46, 3), (13, .astore_n 2, 1), (14, .aload_n 2, 1), (15, .iconst 1, 1), (16, .putfield 50, 3), (19, .aload_n 2, 1), (20, .iconst 1, 1), (21, .putfield 54, 3), (24, .aload_n 2, 1), (25, .iconst 1, 1), (26, .putfield 57, 3), (29, .aload_n 2, 1), (30, .iconst (-1), 1), (31, .iload_n 1, 1), (32, .isub, 1), (33, .putfield 61, 3), (36, .aload_n 2, 1), (37, .areturn, 1)]
theorem D40 (i : Nat) (h : nth tD40 i = some (pc, ins, ln)) : decode prog_28_method_3_code pc = .ok (ins, ln) := dcT (by decide +kernel) i h
def tD41 : List (Nat × Instr × Nat) := [(0, .bipush 6, 2), (2, .istore 5, 2), (4, .iload 4, 2), (6, .iconst 1, 1), (7, .if_icmp .ne 10, 3), (17, .iload 4, 2), (19, .iconst 2, 1), (20, .if_icmp .ne 7, 3), (27, .aload_n 0, 1), (28, .aload_n 0, 1), (29, .iload 5, 2), (31, .aload_n 1, 1), (32, .getfield 61, 3), (35, .iload_n 2, 1), (36, .iload_n 3, 1), (37, .iconst 0, 1), (38, .invokevirtual 42, 3), (41, .invokevirtual 46, 3), (44, .astore 6, 2), (46, .aload 6, 2), (48, .aload_n 1, 1), (49, .getfield 50, 3), (52, .iload_n 2, 1), (53, .imul, 1), (54, .putfield 50, 3), (57, .aload 6, 2), (59, .aload_n 1, 1), (60, .getfield 54, 3), (63, .iload_n 3, 1), (64, .imul, 1), (65, .putfield 54, 3), (68, .aload 6, 2), (70, .iload_n 2, 1), (71, .ifCond .le 7, 3), (74, .iconst 1, 1), (75, .goto 4, 3), (79, .putfield 57, 3), (82, .aload 6, 2), (84, .iload_n 2, 1), (85, .iload_n 3, 1), (86, .if_icmp .ne 7, 3), (89, .iconst 1, 1), (90, .goto 4, 3), (94, .putfield 68, 3), (97, .aload 6, 2), (99, .areturn, 1), (10, .bipush 7, 2), (12, .istore 5, 2), (14, .goto 13, 3), (23, .bipush 8, 2), (25, .istore 5, 2)]
theorem D41 (i : Nat) (h : nth tD41 i = some (pc, ins, ln)) : decode prog_28_method_24_code pc = .ok (ins, ln) := dcT (by decide +kernel) i h
def tD42 : List (Nat × Instr × Nat) := [(0, .aload_n 1, 1), (1, .getfield 61, 3), (4, .ldc 137, 2), (6, .if_icmp .eq 17, 3), (9, .aload_n 0, 1), (10, .aload_n 1, 1), (11, .iload_n 2, 1), (12, .iload_n 3, 1), (13, .iload 4, 2), (15, .invokevirtual 138, 3), (18, .astore 5, 2), (20, .goto 141, 3), (161, .aload 5, 2), (163, .areturn, 1)]
theorem D42 (i : Nat) (h : nth tD42 i = some (pc, ins, ln)) : decode prog_28_method_19_code pc = .ok (ins, ln) := dcT (by decide +kernel) i h
def tD43 : List (Nat × Instr × Nat) := [(0, .aload_n 1, 1), (1, .getfield 88, 3), (4, .istore_n 3, 1), (5, .iload_n 3, 1), (6, .ifCond .lt 36, 3), (9, .aload_n 0, 1), (10, .getfield 17, 3), (13, .iload_n 3, 1), (14, .iconst 1, 1), (15, .iand, 1), (16, .aaload, 1), (17, .iload_n 3, 1), (18, .iconst 1, 1), (19, .ishr, 1), (20, .iaload, 1), (21, .istore 4, 2), (23, .aload_n 0, 1), (24, .getfield 17, 3), (27, .iload_n 3, 1), (28, .iconst 1, 1), (29, .iand, 1), (30, .aaload, 1), (31, .iload_n 3, 1), (32, .iconst 1, 1), (33, .ishr, 1), (34, .iload_n 2, 1), (35, .iastore, 1), (36, .iload 4, 2), (38, .istore_n 3, 1), (39, .goto (-34), 3), (42, .aload_n 1, 1), (43, .iconst (-1), 1), (44, .putfield 88, 3), (47, .aload_n 1, 1), (48, .iconst (-1), 1), (49, .putfield 91, 3), (52, .return_, 1)]
theorem D43 (i : Nat) (h : nth tD43 i = some (pc, ins, ln)) : decode prog_28_method_38_code pc = .ok (ins, ln) := dcT (by decide +kernel) i h
def tD44 : List (Nat × Instr × Nat) := [(0, .aload_n 0, 1), (1, .bipush 21, 2), (3, .iconst 0, 1), (4, .iconst 0, 1), (5, .iconst 0, 1), (6, .iconst 0, 1), (7, .invokevirtual 42, 3), (10, .istore_n 2, 1), (11, .aload_n 1, 1), (12, .getfield 75, 3), (15, .ifCond .lt 9, 3), (18, .aload_n 0, 1), (19, .aload_n 1, 1), (20, .iload_n 2, 1), (21, .invokevirtual 85, 3), (24, .aload_n 1, 1), (25, .getfield 75, 3), (28, .ifCond .lt 10, 3), (31, .aload_n 1, 1), (32, .getfield 75, 3), (35, .goto 4, 3), (39, .ireturn, 1)]
theorem D44 (i : Nat) (h : nth tD44 i = some (pc, ins, ln)) : decode prog_28_method_29_code pc = .ok (ins, ln) := dcT (by decide +kernel) i h
def tD45 : List (Nat × Instr × Nat) := [(0, .iload_n 1, 1), (1, .istore_n 2, 1), (2, .iload_n 2, 1), (3, .ifCond .lt 26, 3), (29, .iload_n 1, 1), (30, .istore_n 3, 1), (31, .iload_n 3, 1), (32, .ifCond .lt 39, 3), (71, .iload_n 2, 1), (72, .ireturn, 1), (6, .aload_n 0, 1), (7, .getfield 9, 3), (10, .iload_n 2, 1), (11, .baload, 1), (12, .bipush 22, 2), (14, .if_icmp .ne 15, 3), (35, .aload_n 0, 1), (36, .getfield 9, 3), (39, .iload_n 3, 1), (40, .baload, 1), (41, .bipush 22, 2), (43, .if_icmp .ne 28, 3)]
theorem D45 (i : Nat) (h : nth tD45 i = some (pc, ins, ln)) : decode prog_28_method_34_code pc = .ok (ins, ln) := dcT (by decide +kernel) i h
def tD46 : List (Nat × Instr × Nat) := [(0, .iload_n 0, 1), (1, .iconst 5, 1), (2, .if_icmp .eq 57, 3), (5, .iload_n 0, 1), (6, .bipush 14, 2), (8, .if_icmp .eq 51, 3), (11, .iload_n 0, 1), (12, .bipush 15, 2), (14, .if_icmp .eq 45, 3), (17, .iload_n 0, 1), (18, .bipush 17, 2), (20, .if_icmp .eq 39, 3), (23, .iload_n 0, 1), (24, .bipush 18, 2), (26, .if_icmp .eq 33, 3), (29, .iload_n 0, 1), (30, .bipush 24, 2), (32, .if_icmp .eq 27, 3), (35, .iload_n 0, 1), (36, .bipush 25, 2), (38, .if_icmp .eq 21, 3), (41, .iload_n 0, 1), (42, .bipush 26, 2), (44, .if_icmp .eq 15, 3), (47, .iload_n 0, 1), (48, .bipush 19, 2), (50, .if_icmp .eq 9, 3), (53, .iload_n 0, 1), (54, .bipush 20, 2), (56, .if_icmp .ne 7, 3), (63, .iconst 0, 1), (64, .ireturn, 1)]
theorem D46 (i : Nat) (h : nth tD46 i = some (pc, ins, ln)) : decode prog_28_method_33_code pc = .ok (ins, ln) := dcT (by decide +kernel) i h
def tD47 : List (Nat × Instr × Nat) := [(0, .aload_n 0, 1), (1, .getfield 48, 3), (4, .ifCond .ne 7, 3), (7, .iconst 1, 1), (8, .goto 4, 3), (12, .ireturn, 1)]
theorem D47 (i : Nat) (h : nth tD47 i = some (pc, ins, ln)) : decode jdk_38_method_9_code pc = .ok (ins, ln) := dcT (by decide +kernel) i h
def tD48 : List (Nat × Instr × Nat) := [(0, .iload_n 0, 1), (1, .iload_n 1, 1), (2, .if_icmp .gt 7, 3), (9, .iload_n 1, 1), (10, .ireturn, 1)]
theorem D48 (i : Nat) (h : nth tD48 i = some (pc, ins, ln)) : decode jdk_29_method_69_code pc = .ok (ins, ln) := dcT (by decide +kernel) i h
def tD49 : List (Nat × Instr × Nat) := [(0, .iload_n 1, 1), (1, .aload_n 0, 1), (2, .arraylength, 1), (3, .if_icmp .ne 11, 3), (14, .iload_n 1, 1), (15, .newarray .int, 2), (17, .astore_n 2, 1), (18, .aload_n 0, 1), (19, .iconst 0, 1), (20, .aload_n 2, 1), (21, .iconst 0, 1), (22, .aload_n 0, 1), (23, .arraylength, 1), (24, .iload_n 1, 1), (25, .invokestatic 304, 3), (28, .invokestatic 150, 3), (31, .aload_n 2, 1), (32, .areturn, 1)]
theorem D49 (i : Nat) (h : nth tD49 i = some (pc, ins, ln)) : decode jdk_65_method_123_code pc = .ok (ins, ln) := dcT (by decide +kernel) i h
def tD50 : List (Nat × Instr × Nat) := [(0, .iload_n 1, 1), (1, .aload_n 0, 1), (2, .arraylength, 1), (3, .if_icmp .ne 11, 3), (14, .iload_n 1, 1), (15, .newarray .byte, 2), (17, .astore_n 2, 1), (18, .aload_n 0, 1), (19, .iconst 0, 1), (20, .aload_n 2, 1), (21, .iconst 0, 1), (22, .aload_n 0, 1), (23, .arraylength, 1), (24, .iload_n 1, 1), (25, .invokestatic 304, 3), (28, .invokestatic 150, 3), (31, .aload_n 2, 1), (32, .areturn, 1)]
theorem D50 (i : Nat) (h : nth tD50 i = some (pc, ins, ln)) : decode jdk_65_method_121_code pc = .ok (ins, ln) := dcT (by decide +kernel) i h
def tD51 : List (Nat × Instr × Nat) := [(0, .aload_n 1, 1), (1, .arraylength, 1), (2, .aload_n 0, 1), (3, .getfield 48, 3), (6, .if_icmp .ge 19, 3), (25, .aload_n 0, 1), (26, .getfield 9, 3), (29, .iconst 0, 1), (30, .aload_n 1, 1), (31, .iconst 0, 1), (32, .aload_n 0, 1), (33, .getfield 48, 3), (36, .invokestatic 112, 3), (39, .aload_n 1, 1), (40, .arraylength, 1), (41, .aload_n 0, 1), (42, .getfield 48, 3), (45, .if_icmp .le 10, 3), (55, .aload_n 1, 1), (56, .areturn, 1)]
theorem D51 (i : Nat) (h : nth tD51 i = some (pc, ins, ln)) : decode jdk_38_method_17_code pc = .ok (ins, ln) := dcT (by decide +kernel) i h
def tD52 : List (Nat × Instr × Nat) := [(0, .aload_n 0, 1), (1, .invokespecial 1, 3), (4, .aload_n 0, 1), (5, .aload_n 1, 1), (6, .putfield 7, 3), (9, .aload_n 0, 1), (10, .aload_n 2, 1), (11, .iconst 0, 1), (12, .aaload, 1), (13, .putfield 13, 3), (16, .aload_n 0, 1), (17, .aload_n 2, 1), (18, .iconst 1, 1), (19, .aaload, 1), (20, .putfield 17, 3), (23, .aload_n 0, 1), (24, .aload_n 2, 1), (25, .iconst 2, 1), (26, .aaload, 1), (27, .putfield 20, 3), (30, .aload_n 0, 1), (31, .aload_n 2, 1), (32, .iconst 3, 1), (33, .aaload, 1), (34, .putfield 23, 3), (37, .aload_n 0, 1), (38, .aload_n 2, 1), (39, .iconst 4, 1), (40, .aaload, 1), (41, .putfield 26, 3), (44, .aload_n 0, 1), (45, .aload_n 3, 1), (46, .putfield 29, 3), (49, .aload_n 0, 1), (50, .iload 4, 2), (52, .putfield 33, 3), (55, .aload_n 0, 1), (56, .aload 5, 2), (58, .putfield 37, 3), (61, .aload_n 0, 1), (62, .iload 6, 2), (64, .putfield 40, 3), (67, .aload_n 0, 1), (68, .iload 7, 2), (70, .putfield 43, 3), (73, .aload_n 0, 1), (74, .iload 8, 2), (76, .putfield 46, 3), (79, .return_, 1)]
theorem D52 (i : Nat) (h : nth tD52 i = some (pc, ins, ln)) : decode prog_34_method_1_code pc = .ok (ins, ln) := dcT (by decide +kernel) i h
def tD53 : List (Nat × Instr × Nat) := [(0, .aload_n 0, 1), (1, .aload_n 1, 1), (2, .invokevirtual 129, 3), (5, .istore 4, 2), (7, .iload_n 2, 1), (8, .ifCond .ne 54, 3), (11, .iconst 0, 1), (12, .istore 5, 2), (14, .iload 5, 2), (16, .aload_n 0, 1), (17, .getfield 172, 3), (20, .if_icmp .ge 42, 3), (23, .aload_n 0, 1), (24, .getfield 9, 3), (27, .iload 5, 2), (29, .baload, 1), (30, .bipush 10, 2), (32, .if_icmp .eq 15, 3), (35, .aload_n 0, 1), (36, .getfield 9, 3), (39, .iload 5, 2), (41, .baload, 1), (42, .bipush 11, 2), (44, .if_icmp .ne 12, 3), (56, .iinc 5 1, 3), (59, .goto (-45), 3), (62, .aload_n 0, 1), (63, .iload 4, 2), (65, .invokevirtual 175, 3), (68, .istore 4, 2), (70, .iconst 0, 1), (71, .istore 5, 2), (73, .iload 5, 2), (75, .aload_n 0, 1), (76, .getfield 172, 3), (79, .if_icmp .ge 66, 3), (82, .aload_n 0, 1), (83, .getfield 17, 3), (86, .iconst 0, 1), (87, .aaload, 1), (88, .iload 5, 2), (90, .aload_n 0, 1), (91, .aload_n 0, 1), (92, .getfield 17, 3), (95, .iconst 0, 1), (96, .aaload, 1), (97, .iload 5, 2), (99, .iaload, 1), (100, .invokevirtual 175, 3), (103, .iastore, 1), (104, .aload_n 0, 1), (105, .getfield 9, 3), (108, .iload 5, 2), (110, .baload, 1), (111, .invokestatic 179, 3), (114, .ifCond .eq 25, 3), (139, .iinc 5 1, 3), (142, .goto (-69), 3), (145, .aconst_null, 1), (146, .astore 5, 2), (148, .iload_n 2, 1), (149, .ifCond .ne 103, 3), (152, .aload_n 0, 1), (153, .getfield 34, 3), (156, .invokeinterface 183 1, 5), (161, .ifCond .ne 91, 3), (252, .iconst 5, 1), (253, .anewarray 192, 3), (256, .astore 6, 2), (258, .iconst 0, 1), (259, .istore 7, 2), (261, .iload 7, 2), (263, .iconst 5, 1), (264, .if_icmp .ge 28, 3), (267, .aload 6, 2), (269, .iload 7, 2), (271, .aload_n 0, 1), (272, .getfield 17, 3), (275, .iload 7, 2), (277, .aaload, 1), (278, .aload_n 0, 1), (279, .getfield 172, 3), (282, .invokestatic 194, 3), (285, .aastore, 1), (286, .iinc 7 1, 3), (289, .goto (-28), 3), (292, .new 40, 3), (295, .dup, 1), (296, .aload_n 0, 1), (297, .getfield 9, 3), (300, .aload_n 0, 1), (301, .getfield 172, 3), (304, .invokestatic 198, 3), (307, .aload 6, 2), (309, .aload_n 0, 1), (310, .getfield 23, 3), (313, .iconst 0, 1), (314, .anewarray 201, 3), (317, .invokeinterface 203 2, 5), (322, .checkcast 207, 3), (325, .iload 4, 2), (327, .aload 5, 2), (329, .aload 5, 2), (331, .ifnonnull 7, 3), (334, .iconst 0, 1), (335, .goto 12, 3), (347, .iload_n 3, 1), (348, .aload_n 0, 1), (349, .getfield 209, 3), (352, .invokespecial 212, 3), (355, .areturn, 1)]
theorem D53 (i : Nat) (h : nth tD53 i = some (pc, ins, ln)) : decode prog_28_method_23_code pc = .ok (ins, ln) := dcT (by decide +kernel) i h
def tD54 : List (Nat × Instr × Nat) := [(0, .iconst (-1), 1), (1, .istore_n 3, 1), (2, .iload_n 2, 1), (3, .aload_n 0, 1), (4, .getfield 35, 3), (7, .if_icmp .lt 8, 3), (15, .iload_n 1, 1), (16, .ifCond .ge 80, 3), (19, .iconst (-1), 1), (20, .iload_n 1, 1), (21, .isub, 1), (22, .istore 4, 2), (24, .aload_n 0, 1), (25, .getfield 25, 3), (28, .iload_n 2, 1), (29, .invokevirtual 209, 3), (32, .istore 5, 2), (34, .iload 4, 2), (36, .ldc 212, 2), (38, .if_icmp .ge 36, 3), (74, .iload 5, 2), (76, .iload 4, 2), (78, .if_icmp .ne 13, 3), (91, .iconst (-1), 1), (92, .istore_n 3, 1), (93, .goto 94, 3), (187, .iload_n 3, 1), (188, .ireturn, 1), (81, .iload_n 2, 1), (82, .iload 5, 2), (84, .invokestatic 216, 3), (87, .iadd, 1), (88, .goto 4, 3), (41, .iload 4, 2), (43, .i2c, 1), (44, .invokestatic 213, 3), (47, .ifCond .ne 27, 3), (50, .aload_n 0, 1), (51, .getfield 25, 3), (54, .iload_n 2, 1), (55, .invokevirtual 64, 3), (58, .iload 4, 2), (60, .if_icmp .ne 9, 3), (69, .iconst (-1), 1), (70, .istore_n 3, 1), (71, .goto 22, 3), (63, .iload_n 2, 1), (64, .iconst 1, 1), (65, .iadd, 1), (66, .goto 4, 3), (10, .iconst (-1), 1), (11, .istore_n 3, 1), (12, .goto 175, 3)]
theorem D54 (i : Nat) (h : nth tD54 i = some (pc, ins, ln)) : decode prog_35_method_13_code pc = .ok (ins, ln) := dcT (by decide +kernel) i h
def tD55 : List (Nat × Instr × Nat) := [(0, .iconst (-1), 1), (1, .istore_n 2, 1), (2, .iload_n 2, 1), (3, .iconst (-1), 1), (4, .if_icmp .ne 441, 3), (7, .aload_n 0, 1), (8, .getfield 77, 3), (11, .iload_n 1, 1), (12, .if_icmp .le 433, 3), (445, .iload_n 2, 1), (446, .ireturn, 1)]
theorem D55 (i : Nat) (h : nth tD55 i = some (pc, ins, ln)) : decode prog_35_method_5_code pc = .ok (ins, ln) := dcT (by decide +kernel) i h
def tD56 : List (Nat × Instr × Nat) := [(0, .aload_n 0, 1), (1, .getfield 80, 3), (4, .iload_n 1, 1), (5, .if_icmp .le 45, 3), (50, .return_, 1)]
theorem D56 (i : Nat) (h : nth tD56 i = some (pc, ins, ln)) : decode prog_35_method_11_code pc = .ok (ins, ln) := dcT (by decide +kernel) i h
def tD57 : List (Nat × Instr × Nat) := [(0, .iload_n 3, 1), (1, .istore 5, 2), (3, .iload 5, 2), (5, .aload_n 0, 1), (6, .getfield 3, 3), (9, .getfield 145, 3), (12, .iload_n 1, 1), (13, .iaload, 1), (14, .if_icmp .le 40, 3), (54, .iload 5, 2), (56, .ireturn, 1)]
theorem D57 (i : Nat) (h : nth tD57 i = some (pc, ins, ln)) : decode prog_35_method_19_code pc = .ok (ins, ln) := dcT (by decide +kernel) i h
def tD58 : List (Nat × Instr × Nat) := [(0, .aload_n 0, 1), (1, .iload_n 1, 1), (2, .aload_n 0, 1), (3, .getfield 83, 3), (6, .invokevirtual 206, 3), (9, .istore_n 2, 1), (10, .iload_n 2, 1), (11, .ifCond .lt 8, 3), (14, .aload_n 0, 1), (15, .iload_n 2, 1), (16, .putfield 83, 3), (19, .iload_n 2, 1), (20, .ifCond .lt 7, 3), (23, .iconst 1, 1), (24, .goto 4, 3), (28, .ireturn, 1), (27, .iconst 0, 1)]
theorem D58 (i : Nat) (h : nth tD58 i = some (pc, ins, ln)) : decode prog_35_method_12_code pc = .ok (ins, ln) := dcT (by decide +kernel) i h
def tD59 : List (Nat × Instr × Nat) := [(0, .aload_n 0, 1), (1, .getfield 3, 3), (4, .getfield 60, 3), (7, .iload_n 1, 1), (8, .baload, 1), (9, .tableswitch 751 1 27 #[123, 158, 191, 238, 262, 304, 304, 304, 329, 360, 394, 467, 509, 539, 539, 548, 591, 591, 600, 625, 650, 672, 685, 591, 591, 591, 718], 123), (132, .aload_n 0, 1), (133, .iconst (-1), 1), (134, .aload_n 0, 1), (135, .getfield 3, 3), (138, .getfield 98, 3), (141, .iload_n 1, 1), (142, .iaload, 1), (143, .isub, 1), (144, .invokevirtual 101, 3), (147, .ifCond .eq 15, 3), (150, .aload_n 0, 1), (151, .getfield 3, 3), (154, .getfield 105, 3), (157, .iload_n 1, 1), (158, .iaload, 1), (159, .goto 4, 3), (163, .istore_n 3, 1), (164, .goto 618, 3), (782, .iload_n 3, 1), (783, .ireturn, 1), (313, .aload_n 0, 1), (314, .iload_n 1, 1), (315, .invokevirtual 128, 3), (318, .ifCond .eq 15, 3), (321, .aload_n 0, 1), (322, .getfield 3, 3), (325, .getfield 105, 3), (328, .iload_n 1, 1), (329, .iaload, 1), (330, .goto 4, 3), (334, .istore_n 3, 1), (335, .goto 447, 3), (162, .iconst (-1), 1), (333, .iconst (-1), 1), (659, .iload_n 2, 1), (660, .ifCond .lt 11, 3), (671, .bipush (-2), 2), (673, .goto 4, 3), (677, .istore_n 3, 1), (678, .goto 104, 3)]
theorem D59 (i : Nat) (h : nth tD59 i = some (pc, ins, ln)) : decode prog_35_method_4_code pc = .ok (ins, ln) := dcT (by decide +kernel) i h
def tD60 : List (Nat × Instr × Nat) := [(0, .aload_n 0, 1), (1, .getfield 83, 3), (4, .istore_n 2, 1), (5, .aload_n 0, 1), (6, .getfield 3, 3), (9, .getfield 145, 3), (12, .iload_n 1, 1), (13, .iaload, 1), (14, .istore_n 3, 1), (15, .aload_n 0, 1), (16, .getfield 3, 3), (19, .getfield 60, 3), (22, .iload_n 1, 1), (23, .baload, 1), (24, .bipush 7, 2), (42, .istore 4, 2), (44, .iconst 0, 1), (45, .istore 5, 2), (47, .iconst 0, 1), (48, .istore 6, 2), (50, .aload_n 0, 1), (51, .aload_n 0, 1), (52, .getfield 3, 3), (55, .getfield 98, 3), (58, .iload_n 1, 1), (59, .iaload, 1), (60, .aload_n 0, 1), (61, .getfield 83, 3), (64, .invokevirtual 206, 3), (67, .istore 7, 2), (69, .iload 5, 2), (71, .iload 4, 2), (73, .if_icmp .ge 71, 3), (76, .iload 7, 2), (78, .ifCond .lt 66, 3), (81, .iload 6, 2), (83, .iload 7, 2), (85, .aload_n 0, 1), (86, .getfield 83, 3), (89, .isub, 1), (90, .iconst 2, 1), (91, .if_icmp .ne 7, 3), (98, .iconst 0, 1), (99, .ior, 1), (100, .istore 6, 2), (102, .aload_n 0, 1), (103, .iload 7, 2), (105, .putfield 83, 3), (108, .iinc 5 1, 3), (111, .iload 5, 2), (113, .iload 4, 2), (115, .if_icmp .ge 23, 3), (138, .iconst (-1), 1), (139, .istore 7, 2), (141, .goto (-72), 3), (144, .iload 5, 2), (146, .iload_n 3, 1), (147, .if_icmp .lt 7, 3), (150, .iconst 1, 1), (151, .goto 4, 3), (155, .istore 8, 2), (157, .iload 8, 2), (159, .ifCond .eq 29, 3), (162, .aload_n 0, 1), (163, .getfield 3, 3), (166, .getfield 60, 3), (169, .iload_n 1, 1), (170, .baload, 1), (171, .bipush 6, 2), (188, .iload 8, 2), (190, .ifCond .eq 36, 3), (193, .aload_n 0, 1), (194, .getfield 3, 3), (197, .getfield 60, 3), (200, .iload_n 1, 1), (201, .baload, 1), (202, .bipush 6, 2), (226, .iload 8, 2), (228, .ifCond .eq 40, 3), (231, .aload_n 0, 1), (232, .getfield 3, 3), (235, .getfield 60, 3), (238, .iload_n 1, 1), (239, .baload, 1), (240, .bipush 7, 2), (268, .iload 8, 2), (270, .ireturn, 1), (242, .if_icmp .ne 26, 3), (245, .iload 5, 2), (247, .aload_n 0, 1), (248, .getfield 3, 3), (251, .getfield 240, 3), (254, .iload_n 1, 1), (255, .iaload, 1), (256, .if_icmp .ge 12, 3), (204, .if_icmp .ne 22, 3), (207, .iload 5, 2), (209, .iload_n 3, 1), (210, .if_icmp .le 16, 3), (173, .if_icmp .ne 15, 3), (176, .aload_n 0, 1), (177, .iload_n 1, 1), (178, .iload_n 2, 1), (179, .iload 5, 2), (181, .iload 6, 2), (183, .invokevirtual 243, 3), (186, .istore 5, 2), (94, .iconst 1, 1), (95, .goto 4, 3), (26, .if_icmp .ne 7, 3), (33, .aload_n 0, 1), (34, .getfield 3, 3), (37, .getfield 240, 3), (40, .iload_n 1, 1), (41, .iaload, 1), (29, .iload_n 3, 1), (30, .goto 12, 3), (154, .iconst 0, 1)]
theorem D60 (i : Nat) (h : nth tD60 i = some (pc, ins, ln)) : decode prog_35_method_16_code pc = .ok (ins, ln) := dcT (by decide +kernel) i h
def tD61 : List (Nat × Instr × Nat) := [(0, .aload_n 0, 1), (1, .getfield 77, 3), (4, .istore 4, 2), (6, .aload_n 0, 1), (7, .getfield 80, 3), (10, .istore 5, 2), (12, .iconst (-1), 1), (13, .istore 6, 2), (15, .aload_n 0, 1), (16, .iload_n 2, 1), (17, .putfield 83, 3), (20, .iload_n 1, 1), (21, .ifCond .lt 46, 3), (24, .aload_n 0, 1), (25, .iload_n 1, 1), (26, .iload_n 3, 1), (27, .invokevirtual 86, 3), (30, .istore_n 1, 1), (31, .iload_n 1, 1), (32, .bipush (-2), 2), (34, .if_icmp .ne 18, 3), (52, .iload_n 1, 1), (53, .iconst (-1), 1), (54, .if_icmp .ne (-34), 3), (37, .aload_n 0, 1), (38, .iload 4, 2), (40, .putfield 77, 3), (43, .aload_n 0, 1), (44, .getfield 83, 3), (47, .istore 6, 2), (49, .goto (-29), 3), (67, .iload 6, 2), (69, .ifCond .ge 9, 3), (78, .iload 6, 2), (80, .ireturn, 1), (57, .aload_n 0, 1), (58, .iload 4, 2), (60, .invokevirtual 90, 3), (63, .istore_n 1, 1), (64, .goto (-44), 3), (72, .aload_n 0, 1), (73, .iload 5, 2), (75, .invokevirtual 94, 3)]
theorem D61 (i : Nat) (h : nth tD61 i = some (pc, ins, ln)) : decode prog_35_method_3_code pc = .ok (ins, ln) := dcT (by decide +kernel) i h
def tD62 : List (Nat × Instr × Nat) := [(0, .iload_n 1, 1), (1, .iload_n 2, 1), (2, .if_icmp .le 44, 3), (46, .iload_n 1, 1), (47, .ifCond .ge 12, 3), (59, .iload_n 2, 1), (60, .iload_n 0, 1), (61, .if_icmp .le 12, 3), (73, .return_, 1)]
theorem D62 (i : Nat) (h : nth tD62 i = some (pc, ins, ln)) : decode jdk_65_method_30_code pc = .ok (ins, ln) := dcT (by decide +kernel) i h
def tD63 : List (Nat × Instr × Nat) := [(0, .aload_n 0, 1), (1, .arraylength, 1), (2, .iload_n 1, 1), (3, .iload_n 2, 1), (4, .invokestatic 13, 3), (7, .iload_n 1, 1), (8, .istore 4, 2), (10, .iload 4, 2), (12, .iload_n 2, 1), (13, .if_icmp .ge 14, 3), (27, .return_, 1)]
theorem D63 (i : Nat) (h : nth tD63 i = some (pc, ins, ln)) : decode jdk_65_method_104_code pc = .ok (ins, ln) := dcT (by decide +kernel) i h
def tD64 : List (Nat × Instr × Nat) := [(0, .aload_n 0, 1), (1, .aload_n 1, 1), (2, .putfield 3, 3), (5, .aload_n 0, 1), (6, .invokespecial 9, 3), (9, .aload_n 0, 1), (10, .getstatic 15, 3), (13, .putfield 19, 3), (16, .aload_n 0, 1), (17, .getstatic 15, 3), (20, .putfield 22, 3), (23, .aload_n 0, 1), (24, .aload_n 2, 1), (25, .putfield 25, 3), (28, .aload_n 0, 1), (29, .aload_n 2, 1), (30, .invokevirtual 29, 3), (33, .putfield 35, 3), (36, .aload_n 0, 1), (37, .aload_n 1, 1), (38, .getfield 38, 3), (41, .aload_n 1, 1), (42, .getfield 41, 3), (45, .iadd, 1), (46, .ifCond .ne 9, 3), (49, .getstatic 15, 3), (52, .goto 16, 3), (68, .putfield 44, 3), (71, .aload_n 0, 1), (72, .getfield 44, 3), (75, .aload_n 1, 1), (76, .getfield 38, 3), (79, .aload_n 1, 1), (80, .getfield 38, 3), (83, .iconst 3, 1), (84, .aload_n 1, 1), (85, .getfield 41, 3), (88, .imul, 1), (89, .iadd, 1), (90, .iconst (-1), 1), (91, .invokestatic 47, 3), (94, .return_, 1)]
theorem D64 (i : Nat) (h : nth tD64 i = some (pc, ins, ln)) : decode prog_35_method_1_code pc = .ok (ins, ln) := dcT (by decide +kernel) i h
def tD65 : List (Nat × Instr × Nat) := [(4, .iload_n 1, 1), (5, .ifCond .ne 120, 3), (8, .aload_n 0, 1), (9, .aload_n 0, 1), (10, .getfield 3, 3), (13, .getfield 53, 3), (16, .iload_n 2, 1), (17, .iconst (-1), 1), (18, .invokevirtual 56, 3), (21, .ifCond .lt 7, 3), (28, .iconst 0, 1), (29, .istore_n 1, 1), (30, .iload_n 1, 1), (31, .ifCond .ne 94, 3), (34, .aload_n 0, 1), (35, .getfield 3, 3), (38, .getfield 60, 3), (41, .aload_n 0, 1), (42, .getfield 3, 3), (45, .getfield 53, 3), (48, .baload, 1), (49, .iconst 4, 1), (50, .if_icmp .eq 75, 3), (53, .iload_n 2, 1), (54, .aload_n 0, 1), (55, .getfield 35, 3), (58, .if_icmp .lt 6, 3), (64, .aload_n 0, 1), (65, .getfield 25, 3), (68, .iload_n 2, 1), (69, .invokevirtual 64, 3), (72, .invokestatic 68, 3), (75, .ifCond .eq 33, 3), (108, .iconst 0, 1), (109, .istore_n 3, 1), (110, .iload_n 2, 1), (111, .iload_n 3, 1), (112, .ifCond .eq 7, 3), (119, .iconst 1, 1), (120, .iadd, 1), (121, .istore_n 2, 1), (122, .goto (-118), 3), (78, .iload_n 2, 1), (79, .iconst 1, 1), (80, .iadd, 1), (81, .aload_n 0, 1), (82, .getfield 35, 3), (85, .if_icmp .ge 23, 3), (88, .aload_n 0, 1), (89, .getfield 25, 3), (92, .iload_n 2, 1), (93, .iconst 1, 1), (94, .iadd, 1), (95, .invokevirtual 64, 3), (98, .invokestatic 74, 3), (101, .ifCond .eq 7, 3), (104, .iconst 1, 1), (105, .goto 4, 3), (115, .iconst 2, 1), (116, .goto 4, 3), (61, .goto 64, 3), (125, .iload_n 1, 1), (126, .ireturn, 1), (24, .iconst 1, 1), (25, .goto 4, 3), (0, .iconst 0, 1), (1, .istore_n 1, 1), (2, .iconst 0, 1), (3, .istore_n 2, 1)]
theorem D65 (i : Nat) (h : nth tD65 i = some (pc, ins, ln)) : decode prog_35_method_2_code pc = .ok (ins, ln) := dcT (by decide +kernel) i h
def tD66 : List (Nat × Instr × Nat) := [(0, .new 49, 3), (3, .dup, 1), (4, .aload_n 0, 1), (5, .aload_n 1, 1), (6, .invokespecial 51, 3), (9, .invokevirtual 54, 3), (12, .ireturn, 1)]
theorem D66 (i : Nat) (h : nth tD66 i = some (pc, ins, ln)) : decode prog_34_method_2_code pc = .ok (ins, ln) := dcT (by decide +kernel) i h
def tD67 : List (Nat × Instr × Nat) := [(0, .iload_n 2, 1), (1, .iload_n 1, 1), (2, .if_icmp .lt 5, 3), (5, .iconst 0, 1), (6, .ireturn, 1), (7, .aload_n 0, 1), (8, .iload_n 2, 1), (9, .caload, 1), (10, .istore 6, 2), (125, .iload_n 2, 1), (126, .ifCond .eq 22, 3), (148, .iconst 1, 1), (149, .goto 4, 3), (153, .istore 8, 2), (155, .iload 7, 2), (157, .ifCond .eq 12, 3), (169, .iconst 0, 1), (170, .ireturn, 1), (160, .iload 8, 2), (162, .ifCond .eq 7, 3), (165, .iconst 1, 1), (166, .goto 4, 3), (12, .iload_n 3, 1), (13, .ldc 9, 2), (15, .if_icmp .ge 31, 3), (46, .iload_n 3, 1), (47, .ldc 9, 2), (49, .if_icmp .lt 37, 3), (52, .iload_n 2, 1), (53, .iconst 1, 1), (54, .iadd, 1), (55, .iload_n 1, 1), (56, .if_icmp .ge 24, 3), (80, .iconst 0, 1), (81, .istore 7, 2), (83, .goto 42, 3), (59, .iload 6, 2), (61, .iload 4, 2), (63, .if_icmp .ne 17, 3), (66, .aload_n 0, 1), (67, .iload_n 2, 1), (68, .iconst 1, 1), (69, .iadd, 1), (70, .caload, 1), (71, .iload 5, 2), (73, .if_icmp .ne 7, 3), (76, .iconst 1, 1), (77, .goto 4, 3), (18, .iload_n 3, 1), (19, .ldc 10, 2), (21, .if_icmp .lt 9, 3), (30, .iload 6, 2), (32, .iload_n 3, 1), (33, .if_icmp .ne 7, 3), (40, .iconst 0, 1), (41, .istore 7, 2), (43, .goto 82, 3), (36, .iconst 1, 1), (37, .goto 4, 3), (24, .iload_n 3, 1), (25, .ldc 50, 2), (27, .if_icmp .le 19, 3), (86, .iload 6, 2), (88, .iload_n 3, 1), (89, .if_icmp .ne 33, 3), (122, .iconst 0, 1), (123, .istore 7, 2), (92, .iload 6, 2), (94, .invokestatic 51, 3), (97, .ifCond .eq 21, 3), (118, .iconst 1, 1), (119, .goto 4, 3), (100, .iload_n 2, 1), (101, .iconst 1, 1), (102, .iadd, 1), (103, .iload_n 1, 1), (104, .if_icmp .ge 14, 3), (107, .aload_n 0, 1), (108, .iload_n 2, 1), (109, .iconst 1, 1), (110, .iadd, 1), (111, .caload, 1), (112, .invokestatic 55, 3), (115, .ifCond .ne 7, 3), (129, .aload_n 0, 1), (130, .iload_n 2, 1), (131, .iconst 1, 1), (132, .isub, 1), (133, .caload, 1), (134, .invokestatic 51, 3), (137, .ifCond .eq 11, 3), (140, .iload 6, 2), (142, .invokestatic 55, 3), (145, .ifCond .ne 7, 3), (152, .iconst 0, 1)]
theorem D67 (i : Nat) (h : nth tD67 i = some (pc, ins, ln)) : decode method_6_code pc = .ok (ins, ln) := dcT (by decide +kernel) i h
def tD68 : List (Nat × Instr × Nat) := [(0, .iload_n 0, 1), (1, .ifCond .ne 9, 3), (10, .iload_n 0, 1), (11, .iconst 1, 1), (12, .if_icmp .ne 9, 3), (21, .iload_n 0, 1), (22, .iconst 2, 1), (23, .if_icmp .ne 17, 3), (40, .iload_n 3, 1), (41, .ldc 48, 2), (43, .iand, 1), (44, .i2c, 1), (45, .istore 4, 2), (47, .iload 4, 2), (49, .ireturn, 1), (26, .ldc 10, 2), (28, .iload_n 3, 1), (29, .sipush 2047, 3), (32, .iand, 1), (33, .ior, 1), (34, .i2c, 1), (35, .istore 4, 2), (37, .goto 10, 3), (15, .iload_n 2, 1), (16, .istore 4, 2), (18, .goto 29, 3), (4, .iload_n 1, 1), (5, .istore 4, 2), (7, .goto 40, 3)]
theorem D68 (i : Nat) (h : nth tD68 i = some (pc, ins, ln)) : decode method_3_code pc = .ok (ins, ln) := dcT (by decide +kernel) i h
theorem wSA {a0 : Array Value} {Z : State} (hw : Hw a0 Z) : ∀ a ∈ Bundle.stringAtoms, a.before a0 Z = true := (faS (W0 hw 11 rfl) (faS (W0 hw 10 rfl) (faS (W0 hw 23 rfl) (faS (W0 hw 24 rfl) (faS (W0 hw 25 rfl) (faS (W0 hw 26 rfl) (faS (W0 hw 27 rfl) fa0)))))))
end Rows
def Gl (Z : State) (dce : Addr) (nona : Addr) (sfv : Value) : Prop :=
  (Sta Z Z.heap "java/util/ArrayList" "DEFAULTCAPACITY_EMPTY_ELEMENTDATA" "[Ljava/lang/Object;" (.ref dce)) ∧
  (∃ c, Z.heap[dce]? = some c ∧ Ary Z (.object "java/lang/Object") [] c) ∧
  (Sta Z Z.heap "com/example/honest_errors/honesterrors/jsonschema/RegexProgram" "NONE" "[I" (.ref nona)) ∧
  (∃ c, Z.heap[nona]? = some c ∧ Ary Z .int [] c) ∧
  (Sta Z Z.heap "jdk/internal/util/Preconditions" "SIOOBE_FORMATTER" "Ljava/util/function/BiFunction;" sfv) ∧
  (sfv = .null ∨ ∃ fa, sfv = .ref fa) ∧
  (Sta Z Z.heap "java/lang/StringUTF16" "$assertionsDisabled" "Z" (.int 1)) ∧
  (Sta Z Z.heap "java/lang/StringUTF16" "HI_BYTE_SHIFT" "I" (.int 0)) ∧
  (Sta Z Z.heap "java/lang/StringUTF16" "LO_BYTE_SHIFT" "I" (.int 8))
theorem Gl.hDC {Z : State} {dce : Addr} {nona : Addr} {sfv : Value} (g : Gl Z dce nona sfv) : Sta Z Z.heap "java/util/ArrayList" "DEFAULTCAPACITY_EMPTY_ELEMENTDATA" "[Ljava/lang/Object;" (.ref dce) := g.1
theorem Gl.aDC {Z : State} {dce : Addr} {nona : Addr} {sfv : Value} (g : Gl Z dce nona sfv) : ∃ c, Z.heap[dce]? = some c ∧ Ary Z (.object "java/lang/Object") [] c := g.2.1
theorem Gl.hNO {Z : State} {dce : Addr} {nona : Addr} {sfv : Value} (g : Gl Z dce nona sfv) : Sta Z Z.heap "com/example/honest_errors/honesterrors/jsonschema/RegexProgram" "NONE" "[I" (.ref nona) := g.2.2.1
theorem Gl.aNO {Z : State} {dce : Addr} {nona : Addr} {sfv : Value} (g : Gl Z dce nona sfv) : ∃ c, Z.heap[nona]? = some c ∧ Ary Z .int [] c := g.2.2.2.1
theorem Gl.hSF {Z : State} {dce : Addr} {nona : Addr} {sfv : Value} (g : Gl Z dce nona sfv) : Sta Z Z.heap "jdk/internal/util/Preconditions" "SIOOBE_FORMATTER" "Ljava/util/function/BiFunction;" sfv := g.2.2.2.2.1
theorem Gl.cSF {Z : State} {dce : Addr} {nona : Addr} {sfv : Value} (g : Gl Z dce nona sfv) : sfv = .null ∨ ∃ fa, sfv = .ref fa := g.2.2.2.2.2.1
theorem Gl.hAD {Z : State} {dce : Addr} {nona : Addr} {sfv : Value} (g : Gl Z dce nona sfv) : Sta Z Z.heap "java/lang/StringUTF16" "$assertionsDisabled" "Z" (.int 1) := g.2.2.2.2.2.2.1
theorem Gl.hHI {Z : State} {dce : Addr} {nona : Addr} {sfv : Value} (g : Gl Z dce nona sfv) : Sta Z Z.heap "java/lang/StringUTF16" "HI_BYTE_SHIFT" "I" (.int 0) := g.2.2.2.2.2.2.2.1
theorem Gl.hLO {Z : State} {dce : Addr} {nona : Addr} {sfv : Value} (g : Gl Z dce nona sfv) : Sta Z Z.heap "java/lang/StringUTF16" "LO_BYTE_SHIFT" "I" (.int 8) := g.2.2.2.2.2.2.2.2
abbrev z13 : List Value := List.replicate 13 (.int 0)
def n32 (ix : Nat) : Int32 := Int32.ofNat ix
theorem n32_lt {ix n : Nat} (h1 : ix ≤ n) (h2 : n ≤ 3) : n32 ix < n32 n ↔ ix < n := ofn_lt (by omega) (by omega)
theorem shr0 (n : Int32) : n >>> ((0 : Int32) &&& 31) = n := by simp
theorem shl0 (n : Int32) : n <<< ((0 : Int32) &&& 31) = n := by simp
def Hy (a0 : Array Value) (Z : State) (cst : Int32) (dce nona : Addr) (sfv : Value) : Prop := Hw a0 Z ∧ Sta Z Z.heap "java/lang/String" "COMPACT_STRINGS" "Z" (.int cst) ∧ (¬ cst = 0) ∧ Gl Z dce nona sfv
theorem W {a0 : Array Value} {Z : State} {cst : Int32} {dce nona : Addr} {sfv : Value} {d : Cond} (hh : Hy a0 Z cst dce nona sfv) (i : Nat) (h : tables_1[i]? = some d) : d.before a0 Z = true := W0 hh.1 i h
section Walks
variable {lch : Launch} {Z : State} {a0 : Array Value} {cst : Int32} {dce nona : Addr} {sfv : Value} {p : Program} {e : Env} {s : State} {m : MethodId} {below : List Frame} {meth : Method} {c : Code} {T0 : State} {h0 : Heap}
abbrev O0 (Z : State) (v0 : Value) (v1 : Value) : Cell → Prop := Obj Z "java/lang/String" [("java/lang/String", "coder", "B", v0), ("java/lang/String", "value", "[B", v1)]
theorem pn0 : plainName "java/lang/String" = true := by first | (simp [plainName, overriddenIn]; done) | decide +kernel
theorem coder0 (H : Hy a0 Z cst dce nona sfv) (t b : Addr) :
    Con lch Z consts_1 Y0 jdk_42_method_152_code 1 (some .byte) (rm 0 0 0 0) #[(.ref t)] [] [(t, O0 Z (.int 0) (.ref b))]
      (fun rv L1 M1 => rv = some (.int 0) ∧ L1 = [] ∧ M1 = []) := by
  refine Con.ob #[vr t] (plainFor_of_name pn0) ?_
  intro p e s m below meth c T0 h0 C S0
  refine C.getstatic S0 (host := "") (Or.inl (W H 263 rfl)) Via.refl (D0 0 rfl) H.2.1 3 rfl fun T1 S1 => C.if_eq S1 (D0 1 rfl) 13 6 (by decide) (by decide) rfl (fun hc2 => absurd hc2 H.2.2.1) fun hc2 => C.a1 S1 (D0 2 rfl) rfl rfl <| C.gf S1 (W H 29 rfl) (D0 3 rfl) (S1.fldM 0 rfl 0 rfl) 10 rfl fun T3 S3 => C.g S3 (D0 4 rfl) 14 rfl ?_
  exact C.rN S3 (D0 5 rfl) 0 (by decide) [] ⟨rfl, rfl, rfl⟩
theorem coder1 (H : Hy a0 Z cst dce nona sfv) (t b : Addr) :
    Con lch Z consts_1 Y0 jdk_42_method_152_code 1 (some .byte) (rm 0 0 0 0) #[(.ref t)] [] [(t, O0 Z (.int 1) (.ref b))]
      (fun rv L1 M1 => rv = some (.int 1) ∧ L1 = [] ∧ M1 = []) := by
  refine Con.ob #[vr t] (plainFor_of_name pn0) ?_
  intro p e s m below meth c T0 h0 C S0
  refine C.getstatic S0 (host := "") (Or.inl (W H 263 rfl)) Via.refl (D0 0 rfl) H.2.1 3 rfl fun T1 S1 => C.if_eq S1 (D0 1 rfl) 13 6 (by decide) (by decide) rfl (fun hc2 => absurd hc2 H.2.2.1) fun hc2 => C.a1 S1 (D0 2 rfl) rfl rfl <| C.gf S1 (W H 29 rfl) (D0 3 rfl) (S1.fldM 0 rfl 0 rfl) 10 rfl fun T3 S3 => C.g S3 (D0 4 rfl) 14 rfl ?_
  exact C.rN S3 (D0 5 rfl) 1 (by decide) [] ⟨rfl, rfl, rfl⟩
theorem isLat0 (H : Hy a0 Z cst dce nona sfv) (t b : Addr) :
    Con lch Z consts_1 Y1 jdk_42_method_154_code 1 (some .boolean) (rm 0 0 0 0) #[(.ref t)] [] [(t, O0 Z (.int 0) (.ref b))]
      (fun rv L1 M1 => rv = some (.int 1) ∧ L1 = [] ∧ M1 = []) := by
  refine Con.ob #[vr t] (plainFor_of_name pn0) ?_
  intro p e s m below meth c T0 h0 C S0
  refine C.getstatic S0 (host := "") (Or.inl (W H 263 rfl)) Via.refl (D1 0 rfl) H.2.1 3 rfl fun T1 S1 => C.if_eq S1 (D1 1 rfl) 17 6 (by decide) (by decide) rfl (fun hc2 => absurd hc2 H.2.2.1) fun hc2 => C.a1 S1 (D1 2 rfl) rfl rfl <| C.gf S1 (W H 29 rfl) (D1 3 rfl) (S1.fldM 0 rfl 0 rfl) 10 rfl fun T3 S3 => C.if_neF S3 (D1 4 rfl) 13 rfl (by decide) <| C.k1 S3 (D1 5 rfl) 1 rfl <| C.g S3 (D1 6 rfl) 18 rfl ?_
  exact C.rN S3 (D1 7 rfl) 1 (by decide) [] ⟨rfl, rfl, rfl⟩
theorem isLat1 (H : Hy a0 Z cst dce nona sfv) (t b : Addr) :
    Con lch Z consts_1 Y1 jdk_42_method_154_code 1 (some .boolean) (rm 0 0 0 0) #[(.ref t)] [] [(t, O0 Z (.int 1) (.ref b))]
      (fun rv L1 M1 => rv = some (.int 0) ∧ L1 = [] ∧ M1 = []) := by
  refine Con.ob #[vr t] (plainFor_of_name pn0) ?_
  intro p e s m below meth c T0 h0 C S0
  refine C.getstatic S0 (host := "") (Or.inl (W H 263 rfl)) Via.refl (D1 0 rfl) H.2.1 3 rfl fun T1 S1 => C.if_eq S1 (D1 1 rfl) 17 6 (by decide) (by decide) rfl (fun hc2 => absurd hc2 H.2.2.1) fun hc2 => C.a1 S1 (D1 2 rfl) rfl rfl <| C.gf S1 (W H 29 rfl) (D1 3 rfl) (S1.fldM 0 rfl 0 rfl) 10 rfl fun T3 S3 => C.if_neT S3 (D1 4 rfl) 17 rfl (by decide) <| C.k1 S3 (D1 8 rfl) 0 rfl ?_
  exact C.rN S3 (D1 7 rfl) 0 (by decide) [] ⟨rfl, rfl, rfl⟩
def blo (c : Int32) : Int32 := c.toInt8.toInt32
def bhi (c : Int32) : Int32 := (c >>> ((8 : Int32) &&& 31)).toInt8.toInt32
def Chr (c : Int32) : Prop := ¬ c < 0 ∧ ¬ 65535 < c
theorem and255 (x : Int32) : (x &&& 255).toInt = x.toInt % 256 := by
  obtain ⟨h1, h2⟩ := c_and x 255 (by decide)
  have e : (255 : Int32).toInt = 255 := rfl
  rw [e] at h2
  have q : (x &&& 255).toBitVec.toNat = x.toBitVec.toNat % 256 := by
    rw [Int32.toBitVec_and, BitVec.toNat_and]
    exact Nat.and_two_pow_sub_one_eq_mod x.toBitVec.toNat 8
  have e1 : (x &&& 255).toInt = ((x &&& 255).toBitVec.toNat : Int) := by
    have := BitVec.toInt_eq_toNat_cond (x &&& 255).toBitVec
    have H : (x &&& 255).toInt = (x &&& 255).toBitVec.toInt := rfl
    rw [H, this, if_pos (by rw [q]; omega)]
  have e2 : x.toInt = x.toBitVec.toNat ∨ x.toInt = (x.toBitVec.toNat : Int) - 4294967296 := by
    have := BitVec.toInt_eq_toNat_cond x.toBitVec
    have H : x.toInt = x.toBitVec.toInt := rfl
    rw [H, this]; split
    · exact Or.inl rfl
    · exact Or.inr rfl
  rw [e1, q]; omega
theorem or_add {x z : Int32} {k : Int} (hx : 0 ≤ x.toInt ∧ x.toInt < 256) (hz : z.toInt = 256 * k) (hk : 0 ≤ k ∧ k < 256) : (x ||| z).toInt = x.toInt + z.toInt := by
  have f : ∀ w : Int32, 0 ≤ w.toInt → (w.toBitVec.toNat : Int) = w.toInt := fun w hw => by
    have := BitVec.toInt_eq_toNat_cond w.toBitVec
    have H : w.toInt = w.toBitVec.toInt := rfl
    rw [H] at hw ⊢; rw [this] at hw ⊢
    have := w.toBitVec.isLt
    split <;> rename_i q
    · rfl
    · rw [if_neg q] at hw; omega
  have fx := f x hx.1
  have fz := f z (by omega)
  have q : (x ||| z).toBitVec.toNat = x.toBitVec.toNat + z.toBitVec.toNat := by
    rw [Int32.toBitVec_or, BitVec.toNat_or, Nat.or_comm]
    have e : z.toBitVec.toNat = 2 ^ 8 * k.toNat := by omega
    rw [e, ← Nat.two_pow_add_eq_or_of_lt (by omega : x.toBitVec.toNat < 2 ^ 8)]; omega
  have := BitVec.toInt_eq_toNat_cond (x ||| z).toBitVec
  have H : (x ||| z).toInt = (x ||| z).toBitVec.toInt := rfl
  rw [H, this, if_pos (by rw [q]; omega), q]; omega
theorem u16_back {c : Int32} (h : ¬ c < 0 ∧ ¬ 65535 < c) : ((blo c &&& 255) ||| ((bhi c &&& 255) <<< ((8 : Int32) &&& 31))).toUInt32.toUInt16.toUInt32.toInt32 = c := by
  obtain ⟨h1, h2⟩ := h
  rw [Int32.lt_iff_toInt_lt] at h1 h2
  have e0 : (0 : Int32).toInt = 0 := rfl
  have e1 : (65535 : Int32).toInt = 65535 := rfl
  rw [e0] at h1; rw [e1] at h2
  have a1 : (blo c).toInt % 256 = c.toInt % 256 := by
    show (c.toInt8.toInt32).toInt % 256 = _
    rw [Int8.toInt_toInt32, Int32.toInt_toInt8]; simp [Int.bmod_def]; split <;> omega
  have a2 : (bhi c).toInt % 256 = (c.toInt / 256) % 256 := by
    show ((c >>> ((8 : Int32) &&& 31)).toInt8.toInt32).toInt % 256 = _
    rw [Int8.toInt_toInt32, Int32.toInt_toInt8, c_ishr c 8 8 rfl]; simp [Int.bmod_def]; split <;> omega
  have x1 := and255 (blo c)
  have y1 := and255 (bhi c)
  have s1 := c_ishl (bhi c &&& 255) 8 8 rfl
  have r1 := Int32.toInt_lt ((bhi c &&& 255) <<< ((8 : Int32) &&& 31))
  have r2 := Int32.le_toInt ((bhi c &&& 255) <<< ((8 : Int32) &&& 31))
  have s2 : ((bhi c &&& 255) <<< ((8 : Int32) &&& 31)).toInt = 256 * (c.toInt / 256) := by omega
  have o := or_add (x := blo c &&& 255) (k := c.toInt / 256) (by omega) s2 (by omega)
  obtain ⟨t1, t2, t3⟩ := c_i2c ((blo c &&& 255) ||| ((bhi c &&& 255) <<< ((8 : Int32) &&& 31)))
  rw [← Int32.toInt_inj]; omega
theorem char_nar {c : Int32} (h : Chr c) : nar .char c = c := by
  obtain ⟨h1, h2⟩ := h
  refine char_back c ?_ ?_
  · rw [Int32.le_iff_toInt_le]; rw [Int32.lt_iff_toInt_lt] at h1; omega
  · rw [Int32.le_iff_toInt_le]; rw [Int32.lt_iff_toInt_lt] at h2; omega
def hiB (c : Int32) : Int32 := if c < 55296 then 0 else if c < 56320 then 1 else 0
def loB (c : Int32) : Int32 := if c < 56320 then 0 else if c < 57344 then 1 else 0
theorem lt_of_toInt {a b : Int32} {x y : Int} (ha : a.toInt = x) (hb : b.toInt = y) : (a < b) = (x < y) := by rw [← ha, ← hb]; exact propext Int32.lt_iff_toInt_lt
theorem hi_gt {c : Int32} : (56319 : Int32) < c ↔ ¬ c < 56320 := by
  rw [Int32.lt_iff_toInt_lt, Int32.lt_iff_toInt_lt, show (56319 : Int32).toInt = 56319 from rfl, show (56320 : Int32).toInt = 56320 from rfl]; omega
theorem lo_gt {c : Int32} : (57343 : Int32) < c ↔ ¬ c < 57344 := by
  rw [Int32.lt_iff_toInt_lt, Int32.lt_iff_toInt_lt, show (57343 : Int32).toInt = 57343 from rfl, show (57344 : Int32).toInt = 57344 from rfl]; omega
theorem hilo {c : Int32} (h : ¬ loB c = 0) : hiB c = 0 := by
  unfold loB at h; unfold hiB
  split at h
  · exact absurd rfl h
  · rename_i q; rw [if_neg q]; split <;> rfl
theorem lat_hi {c : Int32} (h : ¬ c < 0 ∧ ¬ 255 < c) : hiB c = 0 := by
  have q : c < 55296 := by
    have := h.2
    rw [Int32.lt_iff_toInt_lt, show (255 : Int32).toInt = 255 from rfl] at this
    rw [Int32.lt_iff_toInt_lt, show (55296 : Int32).toInt = 55296 from rfl]; omega
  rw [hiB, if_pos q]
def cpc : List Int32 → Int32
  | [] => 0
  | [_] => 1
  | a :: b :: r => if hiB a = 0 then 1 + cpc (b :: r) else if loB b = 0 then 1 + cpc (b :: r) else 1 + cpc r
theorem pn1 : plainName "java/lang/Character" = true := by first | (simp [plainName, overriddenIn]; done) | decide +kernel
theorem isHi (H : Hy a0 Z cst dce nona sfv) (c9 : Int32) :
    Con lch Z consts_1 Y2 jdk_89_method_14_code 1 (some .boolean) (rm 0 0 0 0) #[(.int c9)] [] []
      (fun rv L1 M1 => rv = some (.int (hiB c9)) ∧ L1 = [] ∧ M1 = []) := by
  refine Con.ob #[vi c9] (plainFor_of_name pn1) ?_
  intro p e s m below meth c T0 h0 C S0
  refine C.i1 S0 (D2 0 rfl) rfl <| C.ldcInt S0 (W H 375 rfl) (D2 1 rfl) 3 rfl <| C.icmp_lt S0 (D2 2 rfl) 16 6 (by decide) (by decide) rfl (fun hc1 => ?_) fun hc1 => ?_
  · refine C.k1 S0 (D2 3 rfl) 0 rfl ?_
    exact C.rN S0 (D2 4 rfl) 0 (by decide) [] ⟨by rw [hiB, if_pos hc1], rfl, rfl⟩
  · refine C.i1 S0 (D2 5 rfl) rfl <| C.ldcInt S0 (W H 376 rfl) (D2 6 rfl) 9 rfl <| C.icmp_ge S0 (D2 7 rfl) 16 12 (by decide) (by decide) rfl (fun hc2 => ?_) fun hc2 => ?_
    · refine C.k1 S0 (D2 3 rfl) 0 rfl ?_
      exact C.rN S0 (D2 4 rfl) 0 (by decide) [] ⟨by rw [hiB, if_neg hc1, if_neg hc2], rfl, rfl⟩
    · refine C.k1 S0 (D2 8 rfl) 1 rfl <| C.g S0 (D2 9 rfl) 17 rfl ?_
      exact C.rN S0 (D2 4 rfl) 1 (by decide) [] ⟨by rw [hiB, if_neg hc1, if_pos hc2], rfl, rfl⟩
theorem isLo (H : Hy a0 Z cst dce nona sfv) (c9 : Int32) :
    Con lch Z consts_1 Y3 jdk_89_method_15_code 1 (some .boolean) (rm 0 0 0 0) #[(.int c9)] [] []
      (fun rv L1 M1 => rv = some (.int (loB c9)) ∧ L1 = [] ∧ M1 = []) := by
  refine Con.ob #[vi c9] (plainFor_of_name pn1) ?_
  intro p e s m below meth c T0 h0 C S0
  refine C.i1 S0 (D3 0 rfl) rfl <| C.ldcInt S0 (W H 376 rfl) (D3 1 rfl) 3 rfl <| C.icmp_lt S0 (D3 2 rfl) 16 6 (by decide) (by decide) rfl (fun hc1 => ?_) fun hc1 => ?_
  · refine C.k1 S0 (D3 3 rfl) 0 rfl ?_
    exact C.rN S0 (D3 4 rfl) 0 (by decide) [] ⟨by rw [loB, if_pos hc1], rfl, rfl⟩
  · refine C.i1 S0 (D3 5 rfl) rfl <| C.ldcInt S0 (W H 427 rfl) (D3 6 rfl) 9 rfl <| C.icmp_ge S0 (D3 7 rfl) 16 12 (by decide) (by decide) rfl (fun hc2 => ?_) fun hc2 => ?_
    · refine C.k1 S0 (D3 3 rfl) 0 rfl ?_
      exact C.rN S0 (D3 4 rfl) 0 (by decide) [] ⟨by rw [loB, if_neg hc1, if_neg hc2], rfl, rfl⟩
    · refine C.k1 S0 (D3 8 rfl) 1 rfl <| C.g S0 (D3 9 rfl) 17 rfl ?_
      exact C.rN S0 (D3 4 rfl) 1 (by decide) [] ⟨by rw [loB, if_neg hc1, if_pos hc2], rfl, rfl⟩
theorem pn2 : plainName "com/example/honest_errors/honesterrors/jsonschema/RegexAssemblerLiteralPinLaw" = true := by first | (simp [plainName, overriddenIn]; done) | decide +kernel
theorem lawHi (H : Hy a0 Z cst dce nona sfv) (c9 : Int32) :
    Con lch Z consts_1 Y4 method_4_code 1 (some .boolean) (rm 0 0 0 0) #[(.int c9)] [] []
      (fun rv L1 M1 => rv = some (.int (hiB c9)) ∧ L1 = [] ∧ M1 = []) := by
  refine Con.ob #[vi c9] (plainFor_of_name pn2) ?_
  intro p e s m below meth c T0 h0 C S0
  refine C.i1 S0 (D4 0 rfl) rfl <| C.ldcInt S0 (W H 317 rfl) (D4 1 rfl) 3 rfl <| C.icmp_lt S0 (D4 2 rfl) 16 6 (by decide) (by decide) rfl (fun hc1 => ?_) fun hc1 => ?_
  · refine C.k1 S0 (D4 3 rfl) 0 rfl ?_
    exact C.rN S0 (D4 4 rfl) 0 (by decide) [] ⟨by rw [hiB, if_pos hc1], rfl, rfl⟩
  · refine C.i1 S0 (D4 5 rfl) rfl <| C.ldcInt S0 (W H 405 rfl) (D4 6 rfl) 9 rfl <| C.icmp_gt S0 (D4 7 rfl) 16 12 (by decide) (by decide) rfl (fun hc2 => ?_) fun hc2 => ?_
    · refine C.k1 S0 (D4 3 rfl) 0 rfl ?_
      exact C.rN S0 (D4 4 rfl) 0 (by decide) [] ⟨by rw [hiB, if_neg hc1, if_neg (hi_gt.mp hc2)], rfl, rfl⟩
    · refine C.k1 S0 (D4 8 rfl) 1 rfl <| C.g S0 (D4 9 rfl) 17 rfl ?_
      exact C.rN S0 (D4 4 rfl) 1 (by decide) [] ⟨by rw [hiB, if_neg hc1, if_pos (Decidable.not_not.mp (fun w => hc2 (hi_gt.mpr w)))], rfl, rfl⟩
theorem lawLo (H : Hy a0 Z cst dce nona sfv) (c9 : Int32) :
    Con lch Z consts_1 Y5 method_5_code 1 (some .boolean) (rm 0 0 0 0) #[(.int c9)] [] []
      (fun rv L1 M1 => rv = some (.int (loB c9)) ∧ L1 = [] ∧ M1 = []) := by
  refine Con.ob #[vi c9] (plainFor_of_name pn2) ?_
  intro p e s m below meth c T0 h0 C S0
  refine C.i1 S0 (D5 0 rfl) rfl <| C.ldcInt S0 (W H 409 rfl) (D5 1 rfl) 3 rfl <| C.icmp_lt S0 (D5 2 rfl) 16 6 (by decide) (by decide) rfl (fun hc1 => ?_) fun hc1 => ?_
  · refine C.k1 S0 (D5 3 rfl) 0 rfl ?_
    exact C.rN S0 (D5 4 rfl) 0 (by decide) [] ⟨by rw [loB, if_pos hc1], rfl, rfl⟩
  · refine C.i1 S0 (D5 5 rfl) rfl <| C.ldcInt S0 (W H 433 rfl) (D5 6 rfl) 9 rfl <| C.icmp_gt S0 (D5 7 rfl) 16 12 (by decide) (by decide) rfl (fun hc2 => ?_) fun hc2 => ?_
    · refine C.k1 S0 (D5 3 rfl) 0 rfl ?_
      exact C.rN S0 (D5 4 rfl) 0 (by decide) [] ⟨by rw [loB, if_neg hc1, if_neg (lo_gt.mp hc2)], rfl, rfl⟩
    · refine C.k1 S0 (D5 8 rfl) 1 rfl <| C.g S0 (D5 9 rfl) 17 rfl ?_
      exact C.rN S0 (D5 4 rfl) 1 (by decide) [] ⟨by rw [loB, if_neg hc1, if_pos (Decidable.not_not.mp (fun w => hc2 (lo_gt.mpr w)))], rfl, rfl⟩
def u16 : List Int32 → List Value
  | [] => []
  | c :: r => .int (blo c) :: .int (bhi c) :: u16 r
theorem u16_len : ∀ cs : List Int32, (u16 cs).length = 2 * cs.length
  | [] => rfl
  | _ :: r => by show (u16 r).length + 1 + 1 = _; rw [u16_len r, List.length_cons]; omega
theorem u16_lo : ∀ {cs : List Int32} {ix : Nat}, ix < cs.length → nth (u16 cs) (2 * ix) = some (.int (blo (cs.getD ix 0)))
  | [], _, h => absurd h (Nat.not_lt_zero _)
  | _ :: _, 0, _ => rfl
  | _ :: r, k + 1, h => by
    rw [show 2 * (k + 1) = 2 * k + 1 + 1 from by omega]
    exact u16_lo (cs := r) (Nat.lt_of_succ_lt_succ h)
theorem u16_hi : ∀ {cs : List Int32} {ix : Nat}, ix < cs.length → nth (u16 cs) (2 * ix + 1) = some (.int (bhi (cs.getD ix 0)))
  | [], _, h => absurd h (Nat.not_lt_zero _)
  | _ :: _, 0, _ => rfl
  | _ :: r, k + 1, h => by
    rw [show 2 * (k + 1) + 1 = 2 * k + 1 + 1 + 1 from by omega]
    exact u16_hi (cs := r) (Nat.lt_of_succ_lt_succ h)
theorem n32_int {ix : Nat} (h : ix ≤ 100) : (n32 ix).toInt = ix := ofn_toInt (by omega)
theorem n32_dbl {ix : Nat} (h : ix ≤ 3) : n32 ix <<< ((1 : Int32) &&& 31) = n32 (2 * ix) := by
  rw [← Int32.toInt_inj, n32_int (by omega)]
  have a := c_ishl (n32 ix) 1 1 rfl
  rw [n32_int (by omega), show ((2 ^ 1 : Nat) : Int) = 2 from rfl] at a
  have r1 := Int32.toInt_lt (n32 ix <<< ((1 : Int32) &&& 31)); have r2 := Int32.le_toInt (n32 ix <<< ((1 : Int32) &&& 31))
  push_cast; omega
theorem n32_suc {ix : Nat} : n32 ix + 1 = n32 (ix + 1) := ofn_succ ix
theorem n32_half {ix : Nat} (h : ix ≤ 3) : n32 (2 * ix) >>> ((1 : Int32) &&& 31) = n32 ix := by
  rw [← Int32.toInt_inj, n32_int (by omega), c_ishr (n32 (2 * ix)) 1 1 rfl, n32_int (by omega), show ((2 ^ 1 : Nat) : Int) = 2 from rfl]; push_cast; omega
theorem n32_nn {ix : Nat} (h : ix ≤ 100) : ¬ n32 ix < 0 := ofn_nn (by omega)
theorem n32_nat {ix : Nat} (h : ix ≤ 100) : (n32 ix).toNatClampNeg = ix := ofn_nat (by omega)
theorem pn3 : plainName "java/lang/StringUTF16" = true := by first | (simp [plainName, overriddenIn]; done) | decide +kernel
theorem getG (H : Hy a0 Z cst dce nona sfv) (b : Addr) (cs : List Int32) (ix : Nat) (hlt : ix < cs.length) (hn3 : cs.length ≤ 3) (kk : Chr (cs.getD ix 0)) :
    Con lch Z consts_1 Y6 jdk_52_method_5_code 2 (some .char) (rm 0 0 0 0) #[(.ref b), (.int (n32 ix))] [] [(b, Ary Z .byte (u16 cs))]
      (fun rv L1 M1 => rv = some (.int (cs.getD ix 0)) ∧ L1 = [] ∧ M1 = []) := by
  refine Con.ob #[vr b, vi (n32 ix)] (plainFor_of_name pn3) ?_
  intro p e s m below meth c T0 h0 C S0
  refine C.getstatic S0 (host := "") (Or.inl (W H 338 rfl)) Via.refl (D6 0 rfl) H.2.2.2.hAD 3 rfl fun T1 S1 => C.if_neT S1 (D6 1 rfl) 28 rfl (by decide) <| C.i1 S1 (D6 2 rfl) rfl <| C.k1 S1 (D6 3 rfl) 1 rfl <| C.ishl S1 (D6 4 rfl) 31 rfl (n32 (2 * ix)) (n32_dbl (by omega)) <| C.istoreN S1 (D6 5 rfl) 32 rfl #[vr b, vi (n32 (2 * ix))] rfl <| C.a1 S1 (D6 6 rfl) rfl rfl <| C.i1 S1 (D6 7 rfl) rfl <| C.iinc S1 (D6 8 rfl) 37 rfl rfl (n32 (2 * ix + 1)) 1 rfl n32_suc #[vr b, vi (n32 (2 * ix + 1))] rfl <| C.baload S1 (S1.atM 0 rfl) (D6 9 rfl) 38 rfl (n32_nn (by omega)) (2 * ix) (n32_nat (by omega)) (u16_lo hlt) <| C.k3 S1 (D6 10 rfl) 255 rfl <| C.iand S1 (D6 11 rfl) 42 rfl ((blo (cs.getD ix 0)) &&& (255 : Int32)) rfl <| C.getstatic S1 (host := "") (Or.inl (W H 339 rfl)) Via.refl (D6 12 rfl) H.2.2.2.hHI 45 rfl fun T3 S3 => C.ishl S3 (D6 13 rfl) 46 rfl ((blo (cs.getD ix 0)) &&& (255 : Int32)) (shl0 _) <| C.a1 S3 (D6 14 rfl) rfl rfl ?_
  refine C.i1 S3 (D6 15 rfl) rfl <| C.baload S3 (S3.atM 0 rfl) (D6 16 rfl) 49 rfl (n32_nn (by omega)) (2 * ix + 1) (n32_nat (by omega)) (u16_hi hlt) <| C.k3 S3 (D6 17 rfl) 255 rfl <| C.iand S3 (D6 18 rfl) 53 rfl ((bhi (cs.getD ix 0)) &&& (255 : Int32)) rfl <| C.getstatic S3 (host := "") (Or.inl (W H 340 rfl)) Via.refl (D6 19 rfl) H.2.2.2.hLO 56 rfl fun T4 S4 => C.ishl S4 (D6 20 rfl) 57 rfl (((bhi (cs.getD ix 0)) &&& (255 : Int32)) <<< ((8 : Int32) &&& 31)) rfl <| C.ior S4 (D6 21 rfl) 58 rfl (((blo (cs.getD ix 0)) &&& (255 : Int32)) ||| (((bhi (cs.getD ix 0)) &&& (255 : Int32)) <<< ((8 : Int32) &&& 31))) rfl <| C.i2c S4 (D6 22 rfl) 59 rfl (cs.getD ix 0) (u16_back kk) ?_
  exact C.rN S4 (D6 23 rfl) (cs.getD ix 0) (char_nar kk) [] ⟨rfl, rfl, rfl⟩
theorem nbl1 (H : Hy a0 Z cst dce nona sfv) :
    Con lch Z consts_1 Y7 jdk_52_method_3_code 1 (some .int) (rm 0 0 0 0) #[(.int 1)] [] []
      (fun rv L1 M1 => rv = some (.int 2) ∧ L1 = [] ∧ M1 = []) := by
  refine Con.ob #[vi 1] (plainFor_of_name pn3) ?_
  intro p e s m below meth c T0 h0 C S0
  refine C.i1 S0 (D7 0 rfl) rfl <| C.if_geT S0 (D7 1 rfl) 12 rfl (by decide) <| C.i1 S0 (D7 2 rfl) rfl <| C.ldcInt S0 (W H 334 rfl) (D7 3 rfl) 15 rfl <| C.icmp_ltT S0 (D7 4 rfl) 55 rfl (by decide) <| C.i1 S0 (D7 5 rfl) rfl <| C.k1 S0 (D7 6 rfl) 1 rfl <| C.ishl S0 (D7 7 rfl) 58 rfl (2 : Int32) (by decide) ?_
  exact C.rI S0 (D7 8 rfl) [] ⟨rfl, rfl, rfl⟩
theorem pd0 : parseMethodDescriptor "(I)I" = some ⟨[.int], some .int⟩ := by decide +kernel
theorem nbf1 (H : Hy a0 Z cst dce nona sfv) :
    Con lch Z consts_1 Y8 jdk_52_method_2_code 1 (Option.some (Jvm.ClassFile.FieldType.array Jvm.ClassFile.FieldType.byte)) (rm 1 1 2 12) #[(.int 1)] [] []
      (fun rv L1 M1 => ∃ (b : Addr), rv = some (.ref b) ∧ L1 = [(b, Ary Z .byte [(.int 0), (.int 0)])] ∧ M1 = []) := by
  refine Con.ob #[vi 1] (plainFor_of_name pn3) ?_
  intro p e s m below meth c T0 h0 C S0
  refine C.i1 S0 (D8 0 rfl) rfl <| C.xs S0 (W H 331 rfl) (W H 332 rfl) (W H 320 rfl) (W H 333 rfl) (nbl1 H) (D8 1 rfl) pd0 [(.int 1)] [] [] rl0 ?_
  rintro T1 _ _ _ ⟨rfl, rfl, rfl⟩ hro1 S1
  replace S1 := S1.n0
  refine C.newarray (aty := .byte) S1 (W H 23 rfl) (D8 2 rfl) 6 rfl (by decide) 2 rfl 2 (leD rfl) (by decide) (leD rfl) (leD rfl) fun T2 b2 S2 => ?_
  exact C.rA S2 rfl rfl (D8 3 rfl) [0] ⟨b2, rfl, rfl, rfl⟩
theorem putC1_0 (H : Hy a0 Z cst dce nona sfv) (b : Addr) (c9 y0 y1 : Int32) :
    Con lch Z consts_1 Y9 jdk_52_method_4_code 3 none (rm 0 0 0 0) #[(.ref b), (.int 0), (.int c9)] [(b, Ary Z .byte [(.int y0), (.int y1)])] []
      (fun rv L1 M1 => rv = none ∧ L1 = [(b, Ary Z .byte [(.int (blo c9)), (.int (bhi c9))])] ∧ M1 = []) := by
  refine Con.ob #[vr b, vi 0, vi c9] (plainFor_of_name pn3) ?_
  intro p e s m below meth c T0 h0 C S0
  refine C.getstatic S0 (host := "") (Or.inl (W H 338 rfl)) Via.refl (D9 0 rfl) H.2.2.2.hAD 3 rfl fun T1 S1 => C.if_neT S1 (D9 1 rfl) 28 rfl (by decide) <| C.i1 S1 (D9 2 rfl) rfl <| C.k1 S1 (D9 3 rfl) 1 rfl <| C.ishl S1 (D9 4 rfl) 31 rfl (0 : Int32) (by decide) <| C.istoreN S1 (D9 5 rfl) 32 rfl #[vr b, vi 0, vi c9] rfl <| C.a1 S1 (D9 6 rfl) rfl rfl <| C.i1 S1 (D9 7 rfl) rfl <| C.iinc S1 (D9 8 rfl) 37 rfl rfl 1 1 rfl (by decide) #[vr b, vi 1, vi c9] rfl <| C.i1 S1 (D9 9 rfl) rfl <| C.getstatic S1 (host := "") (Or.inl (W H 339 rfl)) Via.refl (D9 10 rfl) H.2.2.2.hHI 41 rfl fun T3 S3 => C.ishr S3 (D9 11 rfl) 42 rfl c9 (shr0 _) <| C.i2b S3 (D9 12 rfl) 43 rfl (blo c9) rfl <| C.bastore S3 0 rfl (D9 13 rfl) 44 rfl (by decide) 0 rfl (leD rfl) (blo c9) (by simp [nar, blo, bhi]) fun T4 S4 => C.a1 S4 (D9 14 rfl) rfl rfl <| C.i1 S4 (D9 15 rfl) rfl <| C.i1 S4 (D9 16 rfl) rfl <| C.getstatic S4 (host := "") (Or.inl (W H 340 rfl)) Via.refl (D9 17 rfl) H.2.2.2.hLO 50 rfl fun T5 S5 => ?_
  refine C.ishr S5 (D9 18 rfl) 51 rfl (c9 >>> ((8 : Int32) &&& 31)) rfl <| C.i2b S5 (D9 19 rfl) 52 rfl (bhi c9) rfl <| C.bastore S5 0 rfl (D9 20 rfl) 53 rfl (by decide) 1 rfl (leD rfl) (bhi c9) (by simp [nar, blo, bhi]) fun T6 S6 => ?_
  exact C.rV S6 (D9 21 rfl) [0] ⟨rfl, rfl, rfl⟩
theorem pd1 : parseMethodDescriptor "(I)[B" = some ⟨[.int], some (.array .byte)⟩ := by decide +kernel
theorem pd2 : parseMethodDescriptor "([BII)V" = some ⟨[(.array .byte), .int, .int], none⟩ := by decide +kernel
theorem toB1 (H : Hy a0 Z cst dce nona sfv) (a : Addr) (c0 : Int32) :
    Con lch Z consts_1 Y10 jdk_52_method_14_code 5 (Option.some (Jvm.ClassFile.FieldType.array Jvm.ClassFile.FieldType.byte)) (rm 2 1 2 24) #[(.ref a), (.int 0), (.int 1)] [(a, Ary Z .char [(.int c0)])] []
      (fun rv L1 M1 => ∃ (b : Addr), rv = some (.ref b) ∧ L1 = [(a, Ary Z .char [(.int c0)]), (b, Ary Z .byte [(.int (blo c0)), (.int (bhi c0))])] ∧ M1 = []) := by
  refine Con.ob #[vr a, vi 0, vi 1, us, us] (plainFor_of_name pn3) ?_
  intro p e s m below meth c T0 h0 C S0
  refine C.i1 S0 (D10 0 rfl) rfl <| C.xs S0 (W H 328 rfl) (W H 329 rfl) (W H 320 rfl) (W H 330 rfl) (nbf1 H) (D10 1 rfl) pd1 [(.int 1)] [] [] rl0 ?_
  rintro T1 _ _ _ ⟨b2, rfl, rfl, rfl⟩ hro1 S1
  replace S1 := S1.na
  refine C.astoreN S1 (D10 2 rfl) 5 rfl rfl #[vr a, vi 0, vi 1, vr b2, us] rfl <| C.k1 S1 (D10 3 rfl) 0 rfl <| C.istore S1 (D10 4 rfl) 8 rfl #[vr a, vi 0, vi 1, vr b2, vi 0] rfl <| C.i2 S1 (D10 5 rfl) rfl <| C.i1 S1 (D10 6 rfl) rfl <| C.icmp_geF S1 (D10 7 rfl) 14 rfl (by decide) <| C.a1 S1 (D10 8 rfl) rfl rfl <| C.i2 S1 (D10 9 rfl) rfl <| C.a1 S1 (D10 10 rfl) rfl rfl <| C.i1 S1 (D10 11 rfl) rfl <| C.caload S1 (S1.at 0 rfl) (D10 12 rfl) 20 rfl (by decide) 0 rfl rfl <| C.xs S1 (W H 335 rfl) (W H 336 rfl) (W H 320 rfl) (W H 337 rfl) (putC1_0 H b2 c0 (0 : Int32) (0 : Int32)) (D10 13 rfl) pd2 [(.ref b2), (.int 0), (.int c0)] [] [1] rl0 ?_
  rintro T4 _ _ _ ⟨rfl, rfl, rfl⟩ hro4 S4
  replace S4 := S4.nc (L' := [(a, Ary Z .char [(.int c0)]), (b2, Ary Z .byte [(.int (blo c0)), (.int (bhi c0))])]) rfl
  refine C.iinc S4 (D10 14 rfl) 26 rfl rfl 1 1 rfl (by decide) #[vr a, vi 1, vi 1, vr b2, vi 0] rfl <| C.iinc S4 (D10 15 rfl) 29 rfl rfl 1 1 rfl (by decide) #[vr a, vi 1, vi 1, vr b2, vi 1] rfl <| C.g S4 (D10 16 rfl) 8 rfl <| C.i2 S4 (D10 5 rfl) rfl <| C.i1 S4 (D10 6 rfl) rfl <| C.icmp_geT S4 (D10 7 rfl) 32 rfl (by decide) <| C.a1 S4 (D10 17 rfl) rfl rfl ?_
  exact C.rA S4 rfl rfl (D10 18 rfl) [0, 1] ⟨b2, rfl, rfl, rfl⟩
theorem nbl2 (H : Hy a0 Z cst dce nona sfv) :
    Con lch Z consts_1 Y7 jdk_52_method_3_code 1 (some .int) (rm 0 0 0 0) #[(.int 2)] [] []
      (fun rv L1 M1 => rv = some (.int 4) ∧ L1 = [] ∧ M1 = []) := by
  refine Con.ob #[vi 2] (plainFor_of_name pn3) ?_
  intro p e s m below meth c T0 h0 C S0
  refine C.i1 S0 (D7 0 rfl) rfl <| C.if_geT S0 (D7 1 rfl) 12 rfl (by decide) <| C.i1 S0 (D7 2 rfl) rfl <| C.ldcInt S0 (W H 334 rfl) (D7 3 rfl) 15 rfl <| C.icmp_ltT S0 (D7 4 rfl) 55 rfl (by decide) <| C.i1 S0 (D7 5 rfl) rfl <| C.k1 S0 (D7 6 rfl) 1 rfl <| C.ishl S0 (D7 7 rfl) 58 rfl (4 : Int32) (by decide) ?_
  exact C.rI S0 (D7 8 rfl) [] ⟨rfl, rfl, rfl⟩
theorem nbf2 (H : Hy a0 Z cst dce nona sfv) :
    Con lch Z consts_1 Y8 jdk_52_method_2_code 1 (Option.some (Jvm.ClassFile.FieldType.array Jvm.ClassFile.FieldType.byte)) (rm 1 1 4 12) #[(.int 2)] [] []
      (fun rv L1 M1 => ∃ (b : Addr), rv = some (.ref b) ∧ L1 = [(b, Ary Z .byte [(.int 0), (.int 0), (.int 0), (.int 0)])] ∧ M1 = []) := by
  refine Con.ob #[vi 2] (plainFor_of_name pn3) ?_
  intro p e s m below meth c T0 h0 C S0
  refine C.i1 S0 (D8 0 rfl) rfl <| C.xs S0 (W H 331 rfl) (W H 332 rfl) (W H 320 rfl) (W H 333 rfl) (nbl2 H) (D8 1 rfl) pd0 [(.int 2)] [] [] rl0 ?_
  rintro T1 _ _ _ ⟨rfl, rfl, rfl⟩ hro1 S1
  replace S1 := S1.n0
  refine C.newarray (aty := .byte) S1 (W H 23 rfl) (D8 2 rfl) 6 rfl (by decide) 4 rfl 4 (leD rfl) (by decide) (leD rfl) (leD rfl) fun T2 b2 S2 => ?_
  exact C.rA S2 rfl rfl (D8 3 rfl) [0] ⟨b2, rfl, rfl, rfl⟩
theorem putC2_0 (H : Hy a0 Z cst dce nona sfv) (b : Addr) (c9 y0 y1 y2 y3 : Int32) :
    Con lch Z consts_1 Y9 jdk_52_method_4_code 3 none (rm 0 0 0 0) #[(.ref b), (.int 0), (.int c9)] [(b, Ary Z .byte [(.int y0), (.int y1), (.int y2), (.int y3)])] []
      (fun rv L1 M1 => rv = none ∧ L1 = [(b, Ary Z .byte [(.int (blo c9)), (.int (bhi c9)), (.int y2), (.int y3)])] ∧ M1 = []) := by
  refine Con.ob #[vr b, vi 0, vi c9] (plainFor_of_name pn3) ?_
  intro p e s m below meth c T0 h0 C S0
  refine C.getstatic S0 (host := "") (Or.inl (W H 338 rfl)) Via.refl (D9 0 rfl) H.2.2.2.hAD 3 rfl fun T1 S1 => C.if_neT S1 (D9 1 rfl) 28 rfl (by decide) <| C.i1 S1 (D9 2 rfl) rfl <| C.k1 S1 (D9 3 rfl) 1 rfl <| C.ishl S1 (D9 4 rfl) 31 rfl (0 : Int32) (by decide) <| C.istoreN S1 (D9 5 rfl) 32 rfl #[vr b, vi 0, vi c9] rfl <| C.a1 S1 (D9 6 rfl) rfl rfl <| C.i1 S1 (D9 7 rfl) rfl <| C.iinc S1 (D9 8 rfl) 37 rfl rfl 1 1 rfl (by decide) #[vr b, vi 1, vi c9] rfl <| C.i1 S1 (D9 9 rfl) rfl <| C.getstatic S1 (host := "") (Or.inl (W H 339 rfl)) Via.refl (D9 10 rfl) H.2.2.2.hHI 41 rfl fun T3 S3 => C.ishr S3 (D9 11 rfl) 42 rfl c9 (shr0 _) <| C.i2b S3 (D9 12 rfl) 43 rfl (blo c9) rfl <| C.bastore S3 0 rfl (D9 13 rfl) 44 rfl (by decide) 0 rfl (leD rfl) (blo c9) (by simp [nar, blo, bhi]) fun T4 S4 => C.a1 S4 (D9 14 rfl) rfl rfl <| C.i1 S4 (D9 15 rfl) rfl <| C.i1 S4 (D9 16 rfl) rfl <| C.getstatic S4 (host := "") (Or.inl (W H 340 rfl)) Via.refl (D9 17 rfl) H.2.2.2.hLO 50 rfl fun T5 S5 => ?_
  refine C.ishr S5 (D9 18 rfl) 51 rfl (c9 >>> ((8 : Int32) &&& 31)) rfl <| C.i2b S5 (D9 19 rfl) 52 rfl (bhi c9) rfl <| C.bastore S5 0 rfl (D9 20 rfl) 53 rfl (by decide) 1 rfl (leD rfl) (bhi c9) (by simp [nar, blo, bhi]) fun T6 S6 => ?_
  exact C.rV S6 (D9 21 rfl) [0] ⟨rfl, rfl, rfl⟩
theorem putC2_1 (H : Hy a0 Z cst dce nona sfv) (b : Addr) (c9 y0 y1 y2 y3 : Int32) :
    Con lch Z consts_1 Y9 jdk_52_method_4_code 3 none (rm 0 0 0 0) #[(.ref b), (.int 1), (.int c9)] [(b, Ary Z .byte [(.int y0), (.int y1), (.int y2), (.int y3)])] []
      (fun rv L1 M1 => rv = none ∧ L1 = [(b, Ary Z .byte [(.int y0), (.int y1), (.int (blo c9)), (.int (bhi c9))])] ∧ M1 = []) := by
  refine Con.ob #[vr b, vi 1, vi c9] (plainFor_of_name pn3) ?_
  intro p e s m below meth c T0 h0 C S0
  refine C.getstatic S0 (host := "") (Or.inl (W H 338 rfl)) Via.refl (D9 0 rfl) H.2.2.2.hAD 3 rfl fun T1 S1 => C.if_neT S1 (D9 1 rfl) 28 rfl (by decide) <| C.i1 S1 (D9 2 rfl) rfl <| C.k1 S1 (D9 3 rfl) 1 rfl <| C.ishl S1 (D9 4 rfl) 31 rfl (2 : Int32) (by decide) <| C.istoreN S1 (D9 5 rfl) 32 rfl #[vr b, vi 2, vi c9] rfl <| C.a1 S1 (D9 6 rfl) rfl rfl <| C.i1 S1 (D9 7 rfl) rfl <| C.iinc S1 (D9 8 rfl) 37 rfl rfl 3 1 rfl (by decide) #[vr b, vi 3, vi c9] rfl <| C.i1 S1 (D9 9 rfl) rfl <| C.getstatic S1 (host := "") (Or.inl (W H 339 rfl)) Via.refl (D9 10 rfl) H.2.2.2.hHI 41 rfl fun T3 S3 => C.ishr S3 (D9 11 rfl) 42 rfl c9 (shr0 _) <| C.i2b S3 (D9 12 rfl) 43 rfl (blo c9) rfl <| C.bastore S3 0 rfl (D9 13 rfl) 44 rfl (by decide) 2 rfl (leD rfl) (blo c9) (by simp [nar, blo, bhi]) fun T4 S4 => C.a1 S4 (D9 14 rfl) rfl rfl <| C.i1 S4 (D9 15 rfl) rfl <| C.i1 S4 (D9 16 rfl) rfl <| C.getstatic S4 (host := "") (Or.inl (W H 340 rfl)) Via.refl (D9 17 rfl) H.2.2.2.hLO 50 rfl fun T5 S5 => ?_
  refine C.ishr S5 (D9 18 rfl) 51 rfl (c9 >>> ((8 : Int32) &&& 31)) rfl <| C.i2b S5 (D9 19 rfl) 52 rfl (bhi c9) rfl <| C.bastore S5 0 rfl (D9 20 rfl) 53 rfl (by decide) 3 rfl (leD rfl) (bhi c9) (by simp [nar, blo, bhi]) fun T6 S6 => ?_
  exact C.rV S6 (D9 21 rfl) [0] ⟨rfl, rfl, rfl⟩
theorem toB2 (H : Hy a0 Z cst dce nona sfv) (a : Addr) (c0 c1 : Int32) :
    Con lch Z consts_1 Y10 jdk_52_method_14_code 5 (Option.some (Jvm.ClassFile.FieldType.array Jvm.ClassFile.FieldType.byte)) (rm 2 1 4 24) #[(.ref a), (.int 0), (.int 2)] [(a, Ary Z .char [(.int c0), (.int c1)])] []
      (fun rv L1 M1 => ∃ (b : Addr), rv = some (.ref b) ∧ L1 = [(a, Ary Z .char [(.int c0), (.int c1)]), (b, Ary Z .byte [(.int (blo c0)), (.int (bhi c0)), (.int (blo c1)), (.int (bhi c1))])] ∧ M1 = []) := by
  refine Con.ob #[vr a, vi 0, vi 2, us, us] (plainFor_of_name pn3) ?_
  intro p e s m below meth c T0 h0 C S0
  refine C.i1 S0 (D10 0 rfl) rfl <| C.xs S0 (W H 328 rfl) (W H 329 rfl) (W H 320 rfl) (W H 330 rfl) (nbf2 H) (D10 1 rfl) pd1 [(.int 2)] [] [] rl0 ?_
  rintro T1 _ _ _ ⟨b2, rfl, rfl, rfl⟩ hro1 S1
  replace S1 := S1.na
  refine C.astoreN S1 (D10 2 rfl) 5 rfl rfl #[vr a, vi 0, vi 2, vr b2, us] rfl <| C.k1 S1 (D10 3 rfl) 0 rfl <| C.istore S1 (D10 4 rfl) 8 rfl #[vr a, vi 0, vi 2, vr b2, vi 0] rfl <| C.i2 S1 (D10 5 rfl) rfl <| C.i1 S1 (D10 6 rfl) rfl <| C.icmp_geF S1 (D10 7 rfl) 14 rfl (by decide) <| C.a1 S1 (D10 8 rfl) rfl rfl <| C.i2 S1 (D10 9 rfl) rfl <| C.a1 S1 (D10 10 rfl) rfl rfl <| C.i1 S1 (D10 11 rfl) rfl <| C.caload S1 (S1.at 0 rfl) (D10 12 rfl) 20 rfl (by decide) 0 rfl rfl <| C.xs S1 (W H 335 rfl) (W H 336 rfl) (W H 320 rfl) (W H 337 rfl) (putC2_0 H b2 c0 (0 : Int32) (0 : Int32) (0 : Int32) (0 : Int32)) (D10 13 rfl) pd2 [(.ref b2), (.int 0), (.int c0)] [] [1] rl0 ?_
  rintro T4 _ _ _ ⟨rfl, rfl, rfl⟩ hro4 S4
  replace S4 := S4.nc (L' := [(a, Ary Z .char [(.int c0), (.int c1)]), (b2, Ary Z .byte [(.int (blo c0)), (.int (bhi c0)), (.int 0), (.int 0)])]) rfl
  refine C.iinc S4 (D10 14 rfl) 26 rfl rfl 1 1 rfl (by decide) #[vr a, vi 1, vi 2, vr b2, vi 0] rfl <| C.iinc S4 (D10 15 rfl) 29 rfl rfl 1 1 rfl (by decide) #[vr a, vi 1, vi 2, vr b2, vi 1] rfl <| C.g S4 (D10 16 rfl) 8 rfl <| C.i2 S4 (D10 5 rfl) rfl <| C.i1 S4 (D10 6 rfl) rfl <| C.icmp_geF S4 (D10 7 rfl) 14 rfl (by decide) <| C.a1 S4 (D10 8 rfl) rfl rfl <| C.i2 S4 (D10 9 rfl) rfl <| C.a1 S4 (D10 10 rfl) rfl rfl <| C.i1 S4 (D10 11 rfl) rfl <| C.caload S4 (S4.at 0 rfl) (D10 12 rfl) 20 rfl (by decide) 1 rfl rfl <| C.xs S4 (W H 335 rfl) (W H 336 rfl) (W H 320 rfl) (W H 337 rfl) (putC2_1 H b2 c1 (blo c0) (bhi c0) (0 : Int32) (0 : Int32)) (D10 13 rfl) pd2 [(.ref b2), (.int 1), (.int c1)] [] [1] rl0 ?_
  rintro T6 _ _ _ ⟨rfl, rfl, rfl⟩ hro6 S6
  replace S6 := S6.nc (L' := [(a, Ary Z .char [(.int c0), (.int c1)]), (b2, Ary Z .byte [(.int (blo c0)), (.int (bhi c0)), (.int (blo c1)), (.int (bhi c1))])]) rfl
  refine C.iinc S6 (D10 14 rfl) 26 rfl rfl 2 1 rfl (by decide) #[vr a, vi 2, vi 2, vr b2, vi 1] rfl <| C.iinc S6 (D10 15 rfl) 29 rfl rfl 2 1 rfl (by decide) #[vr a, vi 2, vi 2, vr b2, vi 2] rfl <| C.g S6 (D10 16 rfl) 8 rfl <| C.i2 S6 (D10 5 rfl) rfl <| C.i1 S6 (D10 6 rfl) rfl <| C.icmp_geT S6 (D10 7 rfl) 32 rfl (by decide) <| C.a1 S6 (D10 17 rfl) rfl rfl ?_
  exact C.rA S6 rfl rfl (D10 18 rfl) [0, 1] ⟨b2, rfl, rfl, rfl⟩
theorem nbl3 (H : Hy a0 Z cst dce nona sfv) :
    Con lch Z consts_1 Y7 jdk_52_method_3_code 1 (some .int) (rm 0 0 0 0) #[(.int 3)] [] []
      (fun rv L1 M1 => rv = some (.int 6) ∧ L1 = [] ∧ M1 = []) := by
  refine Con.ob #[vi 3] (plainFor_of_name pn3) ?_
  intro p e s m below meth c T0 h0 C S0
  refine C.i1 S0 (D7 0 rfl) rfl <| C.if_geT S0 (D7 1 rfl) 12 rfl (by decide) <| C.i1 S0 (D7 2 rfl) rfl <| C.ldcInt S0 (W H 334 rfl) (D7 3 rfl) 15 rfl <| C.icmp_ltT S0 (D7 4 rfl) 55 rfl (by decide) <| C.i1 S0 (D7 5 rfl) rfl <| C.k1 S0 (D7 6 rfl) 1 rfl <| C.ishl S0 (D7 7 rfl) 58 rfl (6 : Int32) (by decide) ?_
  exact C.rI S0 (D7 8 rfl) [] ⟨rfl, rfl, rfl⟩
theorem nbf3 (H : Hy a0 Z cst dce nona sfv) :
    Con lch Z consts_1 Y8 jdk_52_method_2_code 1 (Option.some (Jvm.ClassFile.FieldType.array Jvm.ClassFile.FieldType.byte)) (rm 1 1 6 12) #[(.int 3)] [] []
      (fun rv L1 M1 => ∃ (b : Addr), rv = some (.ref b) ∧ L1 = [(b, Ary Z .byte [(.int 0), (.int 0), (.int 0), (.int 0), (.int 0), (.int 0)])] ∧ M1 = []) := by
  refine Con.ob #[vi 3] (plainFor_of_name pn3) ?_
  intro p e s m below meth c T0 h0 C S0
  refine C.i1 S0 (D8 0 rfl) rfl <| C.xs S0 (W H 331 rfl) (W H 332 rfl) (W H 320 rfl) (W H 333 rfl) (nbl3 H) (D8 1 rfl) pd0 [(.int 3)] [] [] rl0 ?_
  rintro T1 _ _ _ ⟨rfl, rfl, rfl⟩ hro1 S1
  replace S1 := S1.n0
  refine C.newarray (aty := .byte) S1 (W H 23 rfl) (D8 2 rfl) 6 rfl (by decide) 6 rfl 6 (leD rfl) (by decide) (leD rfl) (leD rfl) fun T2 b2 S2 => ?_
  exact C.rA S2 rfl rfl (D8 3 rfl) [0] ⟨b2, rfl, rfl, rfl⟩
theorem putC3_0 (H : Hy a0 Z cst dce nona sfv) (b : Addr) (c9 y0 y1 y2 y3 y4 y5 : Int32) :
    Con lch Z consts_1 Y9 jdk_52_method_4_code 3 none (rm 0 0 0 0) #[(.ref b), (.int 0), (.int c9)] [(b, Ary Z .byte [(.int y0), (.int y1), (.int y2), (.int y3), (.int y4), (.int y5)])] []
      (fun rv L1 M1 => rv = none ∧ L1 = [(b, Ary Z .byte [(.int (blo c9)), (.int (bhi c9)), (.int y2), (.int y3), (.int y4), (.int y5)])] ∧ M1 = []) := by
  refine Con.ob #[vr b, vi 0, vi c9] (plainFor_of_name pn3) ?_
  intro p e s m below meth c T0 h0 C S0
  refine C.getstatic S0 (host := "") (Or.inl (W H 338 rfl)) Via.refl (D9 0 rfl) H.2.2.2.hAD 3 rfl fun T1 S1 => C.if_neT S1 (D9 1 rfl) 28 rfl (by decide) <| C.i1 S1 (D9 2 rfl) rfl <| C.k1 S1 (D9 3 rfl) 1 rfl <| C.ishl S1 (D9 4 rfl) 31 rfl (0 : Int32) (by decide) <| C.istoreN S1 (D9 5 rfl) 32 rfl #[vr b, vi 0, vi c9] rfl <| C.a1 S1 (D9 6 rfl) rfl rfl <| C.i1 S1 (D9 7 rfl) rfl <| C.iinc S1 (D9 8 rfl) 37 rfl rfl 1 1 rfl (by decide) #[vr b, vi 1, vi c9] rfl <| C.i1 S1 (D9 9 rfl) rfl <| C.getstatic S1 (host := "") (Or.inl (W H 339 rfl)) Via.refl (D9 10 rfl) H.2.2.2.hHI 41 rfl fun T3 S3 => C.ishr S3 (D9 11 rfl) 42 rfl c9 (shr0 _) <| C.i2b S3 (D9 12 rfl) 43 rfl (blo c9) rfl <| C.bastore S3 0 rfl (D9 13 rfl) 44 rfl (by decide) 0 rfl (leD rfl) (blo c9) (by simp [nar, blo, bhi]) fun T4 S4 => C.a1 S4 (D9 14 rfl) rfl rfl <| C.i1 S4 (D9 15 rfl) rfl <| C.i1 S4 (D9 16 rfl) rfl <| C.getstatic S4 (host := "") (Or.inl (W H 340 rfl)) Via.refl (D9 17 rfl) H.2.2.2.hLO 50 rfl fun T5 S5 => ?_
  refine C.ishr S5 (D9 18 rfl) 51 rfl (c9 >>> ((8 : Int32) &&& 31)) rfl <| C.i2b S5 (D9 19 rfl) 52 rfl (bhi c9) rfl <| C.bastore S5 0 rfl (D9 20 rfl) 53 rfl (by decide) 1 rfl (leD rfl) (bhi c9) (by simp [nar, blo, bhi]) fun T6 S6 => ?_
  exact C.rV S6 (D9 21 rfl) [0] ⟨rfl, rfl, rfl⟩
theorem putC3_1 (H : Hy a0 Z cst dce nona sfv) (b : Addr) (c9 y0 y1 y2 y3 y4 y5 : Int32) :
    Con lch Z consts_1 Y9 jdk_52_method_4_code 3 none (rm 0 0 0 0) #[(.ref b), (.int 1), (.int c9)] [(b, Ary Z .byte [(.int y0), (.int y1), (.int y2), (.int y3), (.int y4), (.int y5)])] []
      (fun rv L1 M1 => rv = none ∧ L1 = [(b, Ary Z .byte [(.int y0), (.int y1), (.int (blo c9)), (.int (bhi c9)), (.int y4), (.int y5)])] ∧ M1 = []) := by
  refine Con.ob #[vr b, vi 1, vi c9] (plainFor_of_name pn3) ?_
  intro p e s m below meth c T0 h0 C S0
  refine C.getstatic S0 (host := "") (Or.inl (W H 338 rfl)) Via.refl (D9 0 rfl) H.2.2.2.hAD 3 rfl fun T1 S1 => C.if_neT S1 (D9 1 rfl) 28 rfl (by decide) <| C.i1 S1 (D9 2 rfl) rfl <| C.k1 S1 (D9 3 rfl) 1 rfl <| C.ishl S1 (D9 4 rfl) 31 rfl (2 : Int32) (by decide) <| C.istoreN S1 (D9 5 rfl) 32 rfl #[vr b, vi 2, vi c9] rfl <| C.a1 S1 (D9 6 rfl) rfl rfl <| C.i1 S1 (D9 7 rfl) rfl <| C.iinc S1 (D9 8 rfl) 37 rfl rfl 3 1 rfl (by decide) #[vr b, vi 3, vi c9] rfl <| C.i1 S1 (D9 9 rfl) rfl <| C.getstatic S1 (host := "") (Or.inl (W H 339 rfl)) Via.refl (D9 10 rfl) H.2.2.2.hHI 41 rfl fun T3 S3 => C.ishr S3 (D9 11 rfl) 42 rfl c9 (shr0 _) <| C.i2b S3 (D9 12 rfl) 43 rfl (blo c9) rfl <| C.bastore S3 0 rfl (D9 13 rfl) 44 rfl (by decide) 2 rfl (leD rfl) (blo c9) (by simp [nar, blo, bhi]) fun T4 S4 => C.a1 S4 (D9 14 rfl) rfl rfl <| C.i1 S4 (D9 15 rfl) rfl <| C.i1 S4 (D9 16 rfl) rfl <| C.getstatic S4 (host := "") (Or.inl (W H 340 rfl)) Via.refl (D9 17 rfl) H.2.2.2.hLO 50 rfl fun T5 S5 => ?_
  refine C.ishr S5 (D9 18 rfl) 51 rfl (c9 >>> ((8 : Int32) &&& 31)) rfl <| C.i2b S5 (D9 19 rfl) 52 rfl (bhi c9) rfl <| C.bastore S5 0 rfl (D9 20 rfl) 53 rfl (by decide) 3 rfl (leD rfl) (bhi c9) (by simp [nar, blo, bhi]) fun T6 S6 => ?_
  exact C.rV S6 (D9 21 rfl) [0] ⟨rfl, rfl, rfl⟩
theorem putC3_2 (H : Hy a0 Z cst dce nona sfv) (b : Addr) (c9 y0 y1 y2 y3 y4 y5 : Int32) :
    Con lch Z consts_1 Y9 jdk_52_method_4_code 3 none (rm 0 0 0 0) #[(.ref b), (.int 2), (.int c9)] [(b, Ary Z .byte [(.int y0), (.int y1), (.int y2), (.int y3), (.int y4), (.int y5)])] []
      (fun rv L1 M1 => rv = none ∧ L1 = [(b, Ary Z .byte [(.int y0), (.int y1), (.int y2), (.int y3), (.int (blo c9)), (.int (bhi c9))])] ∧ M1 = []) := by
  refine Con.ob #[vr b, vi 2, vi c9] (plainFor_of_name pn3) ?_
  intro p e s m below meth c T0 h0 C S0
  refine C.getstatic S0 (host := "") (Or.inl (W H 338 rfl)) Via.refl (D9 0 rfl) H.2.2.2.hAD 3 rfl fun T1 S1 => C.if_neT S1 (D9 1 rfl) 28 rfl (by decide) <| C.i1 S1 (D9 2 rfl) rfl <| C.k1 S1 (D9 3 rfl) 1 rfl <| C.ishl S1 (D9 4 rfl) 31 rfl (4 : Int32) (by decide) <| C.istoreN S1 (D9 5 rfl) 32 rfl #[vr b, vi 4, vi c9] rfl <| C.a1 S1 (D9 6 rfl) rfl rfl <| C.i1 S1 (D9 7 rfl) rfl <| C.iinc S1 (D9 8 rfl) 37 rfl rfl 5 1 rfl (by decide) #[vr b, vi 5, vi c9] rfl <| C.i1 S1 (D9 9 rfl) rfl <| C.getstatic S1 (host := "") (Or.inl (W H 339 rfl)) Via.refl (D9 10 rfl) H.2.2.2.hHI 41 rfl fun T3 S3 => C.ishr S3 (D9 11 rfl) 42 rfl c9 (shr0 _) <| C.i2b S3 (D9 12 rfl) 43 rfl (blo c9) rfl <| C.bastore S3 0 rfl (D9 13 rfl) 44 rfl (by decide) 4 rfl (leD rfl) (blo c9) (by simp [nar, blo, bhi]) fun T4 S4 => C.a1 S4 (D9 14 rfl) rfl rfl <| C.i1 S4 (D9 15 rfl) rfl <| C.i1 S4 (D9 16 rfl) rfl <| C.getstatic S4 (host := "") (Or.inl (W H 340 rfl)) Via.refl (D9 17 rfl) H.2.2.2.hLO 50 rfl fun T5 S5 => ?_
  refine C.ishr S5 (D9 18 rfl) 51 rfl (c9 >>> ((8 : Int32) &&& 31)) rfl <| C.i2b S5 (D9 19 rfl) 52 rfl (bhi c9) rfl <| C.bastore S5 0 rfl (D9 20 rfl) 53 rfl (by decide) 5 rfl (leD rfl) (bhi c9) (by simp [nar, blo, bhi]) fun T6 S6 => ?_
  exact C.rV S6 (D9 21 rfl) [0] ⟨rfl, rfl, rfl⟩
theorem toB3 (H : Hy a0 Z cst dce nona sfv) (a : Addr) (c0 c1 c2 : Int32) :
    Con lch Z consts_1 Y10 jdk_52_method_14_code 5 (Option.some (Jvm.ClassFile.FieldType.array Jvm.ClassFile.FieldType.byte)) (rm 2 1 6 24) #[(.ref a), (.int 0), (.int 3)] [(a, Ary Z .char [(.int c0), (.int c1), (.int c2)])] []
      (fun rv L1 M1 => ∃ (b : Addr), rv = some (.ref b) ∧ L1 = [(a, Ary Z .char [(.int c0), (.int c1), (.int c2)]), (b, Ary Z .byte [(.int (blo c0)), (.int (bhi c0)), (.int (blo c1)), (.int (bhi c1)), (.int (blo c2)), (.int (bhi c2))])] ∧ M1 = []) := by
  refine Con.ob #[vr a, vi 0, vi 3, us, us] (plainFor_of_name pn3) ?_
  intro p e s m below meth c T0 h0 C S0
  refine C.i1 S0 (D10 0 rfl) rfl <| C.xs S0 (W H 328 rfl) (W H 329 rfl) (W H 320 rfl) (W H 330 rfl) (nbf3 H) (D10 1 rfl) pd1 [(.int 3)] [] [] rl0 ?_
  rintro T1 _ _ _ ⟨b2, rfl, rfl, rfl⟩ hro1 S1
  replace S1 := S1.na
  refine C.astoreN S1 (D10 2 rfl) 5 rfl rfl #[vr a, vi 0, vi 3, vr b2, us] rfl <| C.k1 S1 (D10 3 rfl) 0 rfl <| C.istore S1 (D10 4 rfl) 8 rfl #[vr a, vi 0, vi 3, vr b2, vi 0] rfl <| C.i2 S1 (D10 5 rfl) rfl <| C.i1 S1 (D10 6 rfl) rfl <| C.icmp_geF S1 (D10 7 rfl) 14 rfl (by decide) <| C.a1 S1 (D10 8 rfl) rfl rfl <| C.i2 S1 (D10 9 rfl) rfl <| C.a1 S1 (D10 10 rfl) rfl rfl <| C.i1 S1 (D10 11 rfl) rfl <| C.caload S1 (S1.at 0 rfl) (D10 12 rfl) 20 rfl (by decide) 0 rfl rfl <| C.xs S1 (W H 335 rfl) (W H 336 rfl) (W H 320 rfl) (W H 337 rfl) (putC3_0 H b2 c0 (0 : Int32) (0 : Int32) (0 : Int32) (0 : Int32) (0 : Int32) (0 : Int32)) (D10 13 rfl) pd2 [(.ref b2), (.int 0), (.int c0)] [] [1] rl0 ?_
  rintro T4 _ _ _ ⟨rfl, rfl, rfl⟩ hro4 S4
  replace S4 := S4.nc (L' := [(a, Ary Z .char [(.int c0), (.int c1), (.int c2)]), (b2, Ary Z .byte [(.int (blo c0)), (.int (bhi c0)), (.int 0), (.int 0), (.int 0), (.int 0)])]) rfl
  refine C.iinc S4 (D10 14 rfl) 26 rfl rfl 1 1 rfl (by decide) #[vr a, vi 1, vi 3, vr b2, vi 0] rfl <| C.iinc S4 (D10 15 rfl) 29 rfl rfl 1 1 rfl (by decide) #[vr a, vi 1, vi 3, vr b2, vi 1] rfl <| C.g S4 (D10 16 rfl) 8 rfl <| C.i2 S4 (D10 5 rfl) rfl <| C.i1 S4 (D10 6 rfl) rfl <| C.icmp_geF S4 (D10 7 rfl) 14 rfl (by decide) <| C.a1 S4 (D10 8 rfl) rfl rfl <| C.i2 S4 (D10 9 rfl) rfl <| C.a1 S4 (D10 10 rfl) rfl rfl <| C.i1 S4 (D10 11 rfl) rfl <| C.caload S4 (S4.at 0 rfl) (D10 12 rfl) 20 rfl (by decide) 1 rfl rfl <| C.xs S4 (W H 335 rfl) (W H 336 rfl) (W H 320 rfl) (W H 337 rfl) (putC3_1 H b2 c1 (blo c0) (bhi c0) (0 : Int32) (0 : Int32) (0 : Int32) (0 : Int32)) (D10 13 rfl) pd2 [(.ref b2), (.int 1), (.int c1)] [] [1] rl0 ?_
  rintro T6 _ _ _ ⟨rfl, rfl, rfl⟩ hro6 S6
  replace S6 := S6.nc (L' := [(a, Ary Z .char [(.int c0), (.int c1), (.int c2)]), (b2, Ary Z .byte [(.int (blo c0)), (.int (bhi c0)), (.int (blo c1)), (.int (bhi c1)), (.int 0), (.int 0)])]) rfl
  refine C.iinc S6 (D10 14 rfl) 26 rfl rfl 2 1 rfl (by decide) #[vr a, vi 2, vi 3, vr b2, vi 1] rfl <| C.iinc S6 (D10 15 rfl) 29 rfl rfl 2 1 rfl (by decide) #[vr a, vi 2, vi 3, vr b2, vi 2] rfl <| C.g S6 (D10 16 rfl) 8 rfl <| C.i2 S6 (D10 5 rfl) rfl <| C.i1 S6 (D10 6 rfl) rfl <| C.icmp_geF S6 (D10 7 rfl) 14 rfl (by decide) <| C.a1 S6 (D10 8 rfl) rfl rfl <| C.i2 S6 (D10 9 rfl) rfl <| C.a1 S6 (D10 10 rfl) rfl rfl <| C.i1 S6 (D10 11 rfl) rfl <| C.caload S6 (S6.at 0 rfl) (D10 12 rfl) 20 rfl (by decide) 2 rfl rfl <| C.xs S6 (W H 335 rfl) (W H 336 rfl) (W H 320 rfl) (W H 337 rfl) (putC3_2 H b2 c2 (blo c0) (bhi c0) (blo c1) (bhi c1) (0 : Int32) (0 : Int32)) (D10 13 rfl) pd2 [(.ref b2), (.int 2), (.int c2)] [] [1] rl0 ?_
  rintro T8 _ _ _ ⟨rfl, rfl, rfl⟩ hro8 S8
  replace S8 := S8.nc (L' := [(a, Ary Z .char [(.int c0), (.int c1), (.int c2)]), (b2, Ary Z .byte [(.int (blo c0)), (.int (bhi c0)), (.int (blo c1)), (.int (bhi c1)), (.int (blo c2)), (.int (bhi c2))])]) rfl
  refine C.iinc S8 (D10 14 rfl) 26 rfl rfl 3 1 rfl (by decide) #[vr a, vi 3, vi 3, vr b2, vi 2] rfl <| C.iinc S8 (D10 15 rfl) 29 rfl rfl 3 1 rfl (by decide) #[vr a, vi 3, vi 3, vr b2, vi 3] rfl <| C.g S8 (D10 16 rfl) 8 rfl <| C.i2 S8 (D10 5 rfl) rfl <| C.i1 S8 (D10 6 rfl) rfl <| C.icmp_geT S8 (D10 7 rfl) 32 rfl (by decide) <| C.a1 S8 (D10 17 rfl) rfl rfl ?_
  exact C.rA S8 rfl rfl (D10 18 rfl) [0, 1] ⟨b2, rfl, rfl, rfl⟩
theorem coderU1 (H : Hy a0 Z cst dce nona sfv) (b : Addr) (c0 : Int32) :
    Con lch Z consts_1 Y11 jdk_52_method_15_code 2 (some .byte) (rm 0 0 0 0) #[(.ref b), (.int 1)] [] [(b, Ary Z .byte [(.int (blo c0)), (.int (bhi c0))])]
      (fun rv L1 M1 => rv = some (.int 1) ∧ L1 = [] ∧ M1 = []) := by
  refine Con.ob #[vr b, vi 1] (plainFor_of_name pn3) ?_
  intro p e s m below meth c T0 h0 C S0
  refine C.i1 S0 (D11 0 rfl) rfl <| C.a1 S0 (D11 1 rfl) rfl rfl <| C.arraylength S0 (S0.atM 0 rfl) (D11 2 rfl) 3 rfl (2 : Int32) rfl <| C.isub S0 (D11 3 rfl) 4 rfl (-1 : Int32) (by decide) <| C.k2 S0 (D11 4 rfl) 31 rfl <| C.iushr S0 (D11 5 rfl) 7 rfl (1 : Int32) (by decide) <| C.i2b S0 (D11 6 rfl) 8 rfl (1 : Int32) (by decide) ?_
  exact C.rN S0 (D11 7 rfl) 1 (by decide) [] ⟨rfl, rfl, rfl⟩
theorem co5_1_0 (H : Hy a0 Z cst dce nona sfv) (a b : Addr) (c0 : Int32) (u0 : 255 < c0) :
    Con lch Z consts_1 Y12 jdk_52_method_21_code 7 (some .int) (rm 0 0 0 0) #[(.ref a), (.int 0), (.ref b), (.int 0), (.int 1)] [(a, Ary Z .char [(.int c0)]), (b, Ary Z .byte [(.int 0)])] []
      (fun rv L1 M1 => rv = some (.int 0) ∧ L1 = [(a, Ary Z .char [(.int c0)]), (b, Ary Z .byte [(.int 0)])] ∧ M1 = []) := by
  refine Con.ob #[vr a, vi 0, vr b, vi 0, vi 1, us, us] (plainFor_of_name pn3) ?_
  intro p e s m below meth c T0 h0 C S0
  refine C.k1 S0 (D12 0 rfl) 0 rfl <| C.istore S0 (D12 1 rfl) 3 rfl #[vr a, vi 0, vr b, vi 0, vi 1, vi 0, us] rfl <| C.i2 S0 (D12 2 rfl) rfl <| C.i2 S0 (D12 3 rfl) rfl <| C.icmp_geF S0 (D12 4 rfl) 10 rfl (by decide) <| C.a1 S0 (D12 5 rfl) rfl rfl <| C.i1 S0 (D12 6 rfl) rfl <| C.caload S0 (S0.at 0 rfl) (D12 7 rfl) 13 rfl (by decide) 0 rfl rfl <| C.istore S0 (D12 8 rfl) 15 rfl #[vr a, vi 0, vr b, vi 0, vi 1, vi 0, vi c0] rfl <| C.i2 S0 (D12 9 rfl) rfl <| C.k3 S0 (D12 10 rfl) 255 rfl <| C.icmp_le S0 (D12 11 rfl) 26 23 (by decide) (by decide) rfl (fun hc2 => absurd u0 hc2) fun hc2 => C.i2 S0 (D12 12 rfl) rfl ?_
  exact C.rI S0 (D12 13 rfl) [0, 1] ⟨rfl, rfl, rfl⟩
theorem pd3 : parseMethodDescriptor "([CI[BII)I" = some ⟨[(.array .char), .int, (.array .byte), .int, .int], some .int⟩ := by decide +kernel
theorem pd4 : parseMethodDescriptor "([CII)[B" = some ⟨[(.array .char), .int, .int], some (.array .byte)⟩ := by decide +kernel
theorem pd5 : parseMethodDescriptor "([BI)C" = some ⟨[(.array .byte), .int], some .char⟩ := by decide +kernel
theorem co3_1_0 (H : Hy a0 Z cst dce nona sfv) (a : Addr) (c0 : Int32) (u0 : 255 < c0) (k0 : Chr c0) :
    Con lch Z consts_1 Y13 jdk_52_method_16_code 6 (Option.some (Jvm.ClassFile.FieldType.array Jvm.ClassFile.FieldType.byte)) (rm 3 2 3 40) #[(.ref a), (.int 0), (.int 1)] [(a, Ary Z .char [(.int c0)])] []
      (fun rv L1 M1 => ∃ (b : Addr), rv = some (.ref b) ∧ L1 = [(a, Ary Z .char [(.int c0)]), (b, Ary Z .byte [(.int (blo c0)), (.int (bhi c0))])] ∧ M1 = []) := by
  refine Con.ob #[vr a, vi 0, vi 1, us, us, us] (plainFor_of_name pn3) ?_
  intro p e s m below meth c T0 h0 C S0
  refine C.i1 S0 (D13 0 rfl) rfl <| C.newarray (aty := .byte) S0 (W H 23 rfl) (D13 1 rfl) 3 rfl (by decide) 1 rfl 1 (leD rfl) (by decide) (leD rfl) (leD rfl) fun T1 b1 S1 => C.astoreN S1 (D13 2 rfl) 4 rfl rfl #[vr a, vi 0, vi 1, vr b1, us, us] rfl <| C.a1 S1 (D13 3 rfl) rfl rfl <| C.i1 S1 (D13 4 rfl) rfl <| C.a1 S1 (D13 5 rfl) rfl rfl <| C.k1 S1 (D13 6 rfl) 0 rfl <| C.i1 S1 (D13 7 rfl) rfl <| C.xs S1 (W H 322 rfl) (W H 323 rfl) (W H 320 rfl) (W H 324 rfl) (co5_1_0 H a b1 c0 u0) (D13 8 rfl) pd3 [(.ref a), (.int 0), (.ref b1), (.int 0), (.int 1)] [] [0, 1] rl0 ?_
  rintro T2 _ _ _ ⟨rfl, rfl, rfl⟩ hro2 S2
  replace S2 := S2.nc (L' := [(a, Ary Z .char [(.int c0)]), (b1, Ary Z .byte [(.int 0)])]) rfl
  refine C.istore S2 (D13 9 rfl) 14 rfl #[vr a, vi 0, vi 1, vr b1, vi 0, us] rfl <| C.i2 S2 (D13 10 rfl) rfl <| C.i1 S2 (D13 11 rfl) rfl <| C.icmp_eqF S2 (D13 12 rfl) 20 rfl (by decide) <| C.a1 S2 (D13 13 rfl) rfl rfl <| C.i1 S2 (D13 14 rfl) rfl <| C.i1 S2 (D13 15 rfl) rfl <| C.xs S2 (W H 325 rfl) (W H 326 rfl) (W H 320 rfl) (W H 327 rfl) (toB1 H a c0) (D13 16 rfl) pd4 [(.ref a), (.int 0), (.int 1)] [] [0] rl0 ?_
  rintro T4 _ _ _ ⟨b5, rfl, rfl, rfl⟩ hro4 S4
  replace S4 := S4.nc (L' := [(a, Ary Z .char [(.int c0)]), (b1, Ary Z .byte [(.int 0)]), (b5, Ary Z .byte [(.int (blo c0)), (.int (bhi c0))])]) rfl
  refine C.astore S4 (D13 17 rfl) 28 rfl rfl #[vr a, vi 0, vi 1, vr b1, vi 0, vr b5] rfl <| C.a2 S4 (D13 18 rfl) rfl rfl <| C.i2 S4 (D13 19 rfl) rfl <| C.xs S4 (W H 341 rfl) (W H 342 rfl) (W H 320 rfl) (W H 343 rfl) (getG H b5 ([c0] : List Int32) 0 (leD rfl) (leD rfl) k0) (D13 20 rfl) pd5 [(.ref b5), (.int 0)] [] [] (rlN (S4.at 2 rfl) rl0) ?_
  rintro T6 _ _ _ ⟨rfl, rfl, rfl⟩ hro6 S6
  replace S6 := S6.n0
  refine C.k3 S6 (D13 21 rfl) 255 rfl ?_
  refine C.icmp_gt S6 (D13 22 rfl) 54 41 (by decide) (by decide) rfl (fun hc7 => ?_) fun hc7 => absurd u0 hc7
  refine C.a2 S6 (D13 23 rfl) rfl rfl ?_
  exact C.rA S6 rfl rfl (D13 24 rfl) [0, 2] ⟨b5, rfl, rfl, rfl⟩
theorem pd6 : parseMethodDescriptor "([BI)B" = some ⟨[(.array .byte), .int], some .byte⟩ := by decide +kernel
theorem si5_1_0 (H : Hy a0 Z cst dce nona sfv) (t a : Addr) (c0 : Int32) (u0 : 255 < c0) (k0 : Chr c0) :
    Con lch Z consts_1 Y14 jdk_42_method_149_code 6 none (rm 4 2 3 57) #[(.ref t), (.ref a), (.int 0), (.int 1), .null] [(t, O0 Z (.int 0) .null), (a, Ary Z .char [(.int c0)])] []
      (fun rv L1 M1 => ∃ (b : Addr), rv = none ∧ L1 = [(t, O0 Z (.int 1) (.ref b)), (a, Ary Z .char [(.int c0)]), (b, Ary Z .byte [(.int (blo c0)), (.int (bhi c0))])] ∧ M1 = []) := by
  refine Con.ob #[vr t, vr a, vi 0, vi 1, .val .null, us] (plainFor_of_name pn0) ?_
  intro p e s m below meth c T0 h0 C S0
  refine C.a1 S0 (D14 0 rfl) rfl rfl <| C.objInit S0 (W H 19 rfl) (W H 20 rfl) (W H 21 rfl) (D14 1 rfl) 4 rfl rfl (leD rfl) (leD rfl) fun T1 S1 => C.i1 S1 (D14 2 rfl) rfl <| C.if_neT S1 (D14 3 rfl) 27 rfl (by decide) <| C.getstatic S1 (host := "") (Or.inl (W H 263 rfl)) Via.refl (D14 4 rfl) H.2.1 30 rfl fun T3 S3 => C.if_eq S3 (D14 5 rfl) 58 33 (by decide) (by decide) rfl (fun hc4 => absurd hc4 H.2.2.1) fun hc4 => C.a1 S3 (D14 6 rfl) rfl rfl <| C.i1 S3 (D14 7 rfl) rfl <| C.i1 S3 (D14 8 rfl) rfl <| C.xs S3 (W H 318 rfl) (W H 319 rfl) (W H 320 rfl) (W H 321 rfl) (co3_1_0 H a c0 u0 k0) (D14 9 rfl) pd4 [(.ref a), (.int 0), (.int 1)] [] [1] rl0 ?_
  rintro T5 _ _ _ ⟨b6, rfl, rfl, rfl⟩ hro5 S5
  replace S5 := S5.nc (L' := [(t, O0 Z (.int 0) .null), (a, Ary Z .char [(.int c0)]), (b6, Ary Z .byte [(.int (blo c0)), (.int (bhi c0))])]) rfl
  refine C.astore S5 (D14 10 rfl) 41 rfl rfl #[vr t, vr a, vi 0, vi 1, .val .null, vr b6] rfl <| C.a1 S5 (D14 11 rfl) rfl rfl <| C.a2 S5 (D14 12 rfl) rfl rfl <| C.i1 S5 (D14 13 rfl) rfl <| C.xs S5 (W H 344 rfl) (W H 345 rfl) (W H 320 rfl) (W H 346 rfl) (coderU1 H b6 c0) (D14 14 rfl) pd6 [(.ref b6), (.int 1)] [(.ref t)] [] (rlN (S5.at 2 rfl) rl0) ?_
  rintro T7 _ _ _ ⟨rfl, rfl, rfl⟩ hro7 S7
  replace S7 := S7.n0
  refine C.putfieldN S7 (W H 29 rfl) Via.refl (D14 15 rfl) 0 rfl 0 rfl (Or.inr ⟨(W H 25 rfl), rfl, rfl⟩) (W H 10 rfl) (ty := .byte) (by decide) rfl rfl 51 rfl fun T8 S8 => C.a1 S8 (D14 16 rfl) rfl rfl <| C.a2 S8 (D14 17 rfl) rfl rfl <| C.putfield S8 (host := "") (Or.inl (W H 28 rfl)) Via.refl (D14 18 rfl) 0 rfl 1 rfl (Or.inr ⟨(W H 24 rfl), rfl, rfl⟩) (W H 10 rfl) (ty := (.array .byte)) (by decide) rfl rfl 57 rfl fun T9 S9 => ?_
  exact C.rV S9 (D14 19 rfl) [0, 1, 2] ⟨b6, rfl, rfl, rfl⟩
theorem pd7 : parseMethodDescriptor "([CIILjava/lang/Void;)V" = some ⟨[(.array .char), .int, .int, (.object "java/lang/Void")], none⟩ := by decide +kernel
theorem si1_1_0 (H : Hy a0 Z cst dce nona sfv) (t a : Addr) (c0 : Int32) (u0 : 255 < c0) (k0 : Chr c0) :
    Con lch Z consts_1 Y15 jdk_42_method_3_code 2 none (rm 5 2 3 74) #[(.ref t), (.ref a)] [(t, O0 Z (.int 0) .null), (a, Ary Z .char [(.int c0)])] []
      (fun rv L1 M1 => ∃ (b : Addr), rv = none ∧ L1 = [(t, O0 Z (.int 1) (.ref b)), (a, Ary Z .char [(.int c0)]), (b, Ary Z .byte [(.int (blo c0)), (.int (bhi c0))])] ∧ M1 = []) := by
  refine Con.ob #[vr t, vr a] (plainFor_of_name pn0) ?_
  intro p e s m below meth c T0 h0 C S0
  refine C.a1 S0 (D15 0 rfl) rfl rfl <| C.a1 S0 (D15 1 rfl) rfl rfl <| C.k1 S0 (D15 2 rfl) 0 rfl <| C.a1 S0 (D15 3 rfl) rfl rfl <| C.arraylength S0 (S0.at 1 rfl) (D15 4 rfl) 5 rfl (1 : Int32) rfl <| C.aconstNull S0 (D15 5 rfl) 6 rfl <| C.xi (a := t) S0 (W H 15 rfl) (W H 16 rfl) (W H 11 rfl) (W H 18 rfl) (si5_1_0 H t a c0 u0 k0) (D15 6 rfl) pd7 [(.ref a), (.int 0), (.int 1), .null] [] [0, 1] rl0 ?_
  rintro T1 _ _ _ ⟨b2, rfl, rfl, rfl⟩ hro1 S1
  replace S1 := S1.nc (L' := [(t, O0 Z (.int 1) (.ref b2)), (a, Ary Z .char [(.int c0)]), (b2, Ary Z .byte [(.int (blo c0)), (.int (bhi c0))])]) rfl
  exact C.rV S1 (D15 7 rfl) [0, 1, 2] ⟨b2, rfl, rfl, rfl⟩
theorem coderU2 (H : Hy a0 Z cst dce nona sfv) (b : Addr) (c0 c1 : Int32) :
    Con lch Z consts_1 Y11 jdk_52_method_15_code 2 (some .byte) (rm 0 0 0 0) #[(.ref b), (.int 2)] [] [(b, Ary Z .byte [(.int (blo c0)), (.int (bhi c0)), (.int (blo c1)), (.int (bhi c1))])]
      (fun rv L1 M1 => rv = some (.int 1) ∧ L1 = [] ∧ M1 = []) := by
  refine Con.ob #[vr b, vi 2] (plainFor_of_name pn3) ?_
  intro p e s m below meth c T0 h0 C S0
  refine C.i1 S0 (D11 0 rfl) rfl <| C.a1 S0 (D11 1 rfl) rfl rfl <| C.arraylength S0 (S0.atM 0 rfl) (D11 2 rfl) 3 rfl (4 : Int32) rfl <| C.isub S0 (D11 3 rfl) 4 rfl (-2 : Int32) (by decide) <| C.k2 S0 (D11 4 rfl) 31 rfl <| C.iushr S0 (D11 5 rfl) 7 rfl (1 : Int32) (by decide) <| C.i2b S0 (D11 6 rfl) 8 rfl (1 : Int32) (by decide) ?_
  exact C.rN S0 (D11 7 rfl) 1 (by decide) [] ⟨rfl, rfl, rfl⟩
theorem co5_2_0 (H : Hy a0 Z cst dce nona sfv) (a b : Addr) (c0 c1 : Int32) (u0 : 255 < c0) :
    Con lch Z consts_1 Y12 jdk_52_method_21_code 7 (some .int) (rm 0 0 0 0) #[(.ref a), (.int 0), (.ref b), (.int 0), (.int 2)] [(a, Ary Z .char [(.int c0), (.int c1)]), (b, Ary Z .byte [(.int 0), (.int 0)])] []
      (fun rv L1 M1 => rv = some (.int 0) ∧ L1 = [(a, Ary Z .char [(.int c0), (.int c1)]), (b, Ary Z .byte [(.int 0), (.int 0)])] ∧ M1 = []) := by
  refine Con.ob #[vr a, vi 0, vr b, vi 0, vi 2, us, us] (plainFor_of_name pn3) ?_
  intro p e s m below meth c T0 h0 C S0
  refine C.k1 S0 (D12 0 rfl) 0 rfl <| C.istore S0 (D12 1 rfl) 3 rfl #[vr a, vi 0, vr b, vi 0, vi 2, vi 0, us] rfl <| C.i2 S0 (D12 2 rfl) rfl <| C.i2 S0 (D12 3 rfl) rfl <| C.icmp_geF S0 (D12 4 rfl) 10 rfl (by decide) <| C.a1 S0 (D12 5 rfl) rfl rfl <| C.i1 S0 (D12 6 rfl) rfl <| C.caload S0 (S0.at 0 rfl) (D12 7 rfl) 13 rfl (by decide) 0 rfl rfl <| C.istore S0 (D12 8 rfl) 15 rfl #[vr a, vi 0, vr b, vi 0, vi 2, vi 0, vi c0] rfl <| C.i2 S0 (D12 9 rfl) rfl <| C.k3 S0 (D12 10 rfl) 255 rfl <| C.icmp_le S0 (D12 11 rfl) 26 23 (by decide) (by decide) rfl (fun hc2 => absurd u0 hc2) fun hc2 => C.i2 S0 (D12 12 rfl) rfl ?_
  exact C.rI S0 (D12 13 rfl) [0, 1] ⟨rfl, rfl, rfl⟩
theorem co3_2_0 (H : Hy a0 Z cst dce nona sfv) (a : Addr) (c0 c1 : Int32) (u0 : 255 < c0) (k0 : Chr c0) :
    Con lch Z consts_1 Y13 jdk_52_method_16_code 6 (Option.some (Jvm.ClassFile.FieldType.array Jvm.ClassFile.FieldType.byte)) (rm 3 2 6 40) #[(.ref a), (.int 0), (.int 2)] [(a, Ary Z .char [(.int c0), (.int c1)])] []
      (fun rv L1 M1 => ∃ (b : Addr), rv = some (.ref b) ∧ L1 = [(a, Ary Z .char [(.int c0), (.int c1)]), (b, Ary Z .byte [(.int (blo c0)), (.int (bhi c0)), (.int (blo c1)), (.int (bhi c1))])] ∧ M1 = []) := by
  refine Con.ob #[vr a, vi 0, vi 2, us, us, us] (plainFor_of_name pn3) ?_
  intro p e s m below meth c T0 h0 C S0
  refine C.i1 S0 (D13 0 rfl) rfl <| C.newarray (aty := .byte) S0 (W H 23 rfl) (D13 1 rfl) 3 rfl (by decide) 2 rfl 2 (leD rfl) (by decide) (leD rfl) (leD rfl) fun T1 b1 S1 => C.astoreN S1 (D13 2 rfl) 4 rfl rfl #[vr a, vi 0, vi 2, vr b1, us, us] rfl <| C.a1 S1 (D13 3 rfl) rfl rfl <| C.i1 S1 (D13 4 rfl) rfl <| C.a1 S1 (D13 5 rfl) rfl rfl <| C.k1 S1 (D13 6 rfl) 0 rfl <| C.i1 S1 (D13 7 rfl) rfl <| C.xs S1 (W H 322 rfl) (W H 323 rfl) (W H 320 rfl) (W H 324 rfl) (co5_2_0 H a b1 c0 c1 u0) (D13 8 rfl) pd3 [(.ref a), (.int 0), (.ref b1), (.int 0), (.int 2)] [] [0, 1] rl0 ?_
  rintro T2 _ _ _ ⟨rfl, rfl, rfl⟩ hro2 S2
  replace S2 := S2.nc (L' := [(a, Ary Z .char [(.int c0), (.int c1)]), (b1, Ary Z .byte [(.int 0), (.int 0)])]) rfl
  refine C.istore S2 (D13 9 rfl) 14 rfl #[vr a, vi 0, vi 2, vr b1, vi 0, us] rfl <| C.i2 S2 (D13 10 rfl) rfl <| C.i1 S2 (D13 11 rfl) rfl <| C.icmp_eqF S2 (D13 12 rfl) 20 rfl (by decide) <| C.a1 S2 (D13 13 rfl) rfl rfl <| C.i1 S2 (D13 14 rfl) rfl <| C.i1 S2 (D13 15 rfl) rfl <| C.xs S2 (W H 325 rfl) (W H 326 rfl) (W H 320 rfl) (W H 327 rfl) (toB2 H a c0 c1) (D13 16 rfl) pd4 [(.ref a), (.int 0), (.int 2)] [] [0] rl0 ?_
  rintro T4 _ _ _ ⟨b5, rfl, rfl, rfl⟩ hro4 S4
  replace S4 := S4.nc (L' := [(a, Ary Z .char [(.int c0), (.int c1)]), (b1, Ary Z .byte [(.int 0), (.int 0)]), (b5, Ary Z .byte [(.int (blo c0)), (.int (bhi c0)), (.int (blo c1)), (.int (bhi c1))])]) rfl
  refine C.astore S4 (D13 17 rfl) 28 rfl rfl #[vr a, vi 0, vi 2, vr b1, vi 0, vr b5] rfl <| C.a2 S4 (D13 18 rfl) rfl rfl <| C.i2 S4 (D13 19 rfl) rfl <| C.xs S4 (W H 341 rfl) (W H 342 rfl) (W H 320 rfl) (W H 343 rfl) (getG H b5 ([c0, c1] : List Int32) 0 (leD rfl) (leD rfl) k0) (D13 20 rfl) pd5 [(.ref b5), (.int 0)] [] [] (rlN (S4.at 2 rfl) rl0) ?_
  rintro T6 _ _ _ ⟨rfl, rfl, rfl⟩ hro6 S6
  replace S6 := S6.n0
  refine C.k3 S6 (D13 21 rfl) 255 rfl ?_
  refine C.icmp_gt S6 (D13 22 rfl) 54 41 (by decide) (by decide) rfl (fun hc7 => ?_) fun hc7 => absurd u0 hc7
  refine C.a2 S6 (D13 23 rfl) rfl rfl ?_
  exact C.rA S6 rfl rfl (D13 24 rfl) [0, 2] ⟨b5, rfl, rfl, rfl⟩
theorem si5_2_0 (H : Hy a0 Z cst dce nona sfv) (t a : Addr) (c0 c1 : Int32) (u0 : 255 < c0) (k0 : Chr c0) :
    Con lch Z consts_1 Y14 jdk_42_method_149_code 6 none (rm 4 2 6 57) #[(.ref t), (.ref a), (.int 0), (.int 2), .null] [(t, O0 Z (.int 0) .null), (a, Ary Z .char [(.int c0), (.int c1)])] []
      (fun rv L1 M1 => ∃ (b : Addr), rv = none ∧ L1 = [(t, O0 Z (.int 1) (.ref b)), (a, Ary Z .char [(.int c0), (.int c1)]), (b, Ary Z .byte [(.int (blo c0)), (.int (bhi c0)), (.int (blo c1)), (.int (bhi c1))])] ∧ M1 = []) := by
  refine Con.ob #[vr t, vr a, vi 0, vi 2, .val .null, us] (plainFor_of_name pn0) ?_
  intro p e s m below meth c T0 h0 C S0
  refine C.a1 S0 (D14 0 rfl) rfl rfl <| C.objInit S0 (W H 19 rfl) (W H 20 rfl) (W H 21 rfl) (D14 1 rfl) 4 rfl rfl (leD rfl) (leD rfl) fun T1 S1 => C.i1 S1 (D14 2 rfl) rfl <| C.if_neT S1 (D14 3 rfl) 27 rfl (by decide) <| C.getstatic S1 (host := "") (Or.inl (W H 263 rfl)) Via.refl (D14 4 rfl) H.2.1 30 rfl fun T3 S3 => C.if_eq S3 (D14 5 rfl) 58 33 (by decide) (by decide) rfl (fun hc4 => absurd hc4 H.2.2.1) fun hc4 => C.a1 S3 (D14 6 rfl) rfl rfl <| C.i1 S3 (D14 7 rfl) rfl <| C.i1 S3 (D14 8 rfl) rfl <| C.xs S3 (W H 318 rfl) (W H 319 rfl) (W H 320 rfl) (W H 321 rfl) (co3_2_0 H a c0 c1 u0 k0) (D14 9 rfl) pd4 [(.ref a), (.int 0), (.int 2)] [] [1] rl0 ?_
  rintro T5 _ _ _ ⟨b6, rfl, rfl, rfl⟩ hro5 S5
  replace S5 := S5.nc (L' := [(t, O0 Z (.int 0) .null), (a, Ary Z .char [(.int c0), (.int c1)]), (b6, Ary Z .byte [(.int (blo c0)), (.int (bhi c0)), (.int (blo c1)), (.int (bhi c1))])]) rfl
  refine C.astore S5 (D14 10 rfl) 41 rfl rfl #[vr t, vr a, vi 0, vi 2, .val .null, vr b6] rfl <| C.a1 S5 (D14 11 rfl) rfl rfl <| C.a2 S5 (D14 12 rfl) rfl rfl <| C.i1 S5 (D14 13 rfl) rfl <| C.xs S5 (W H 344 rfl) (W H 345 rfl) (W H 320 rfl) (W H 346 rfl) (coderU2 H b6 c0 c1) (D14 14 rfl) pd6 [(.ref b6), (.int 2)] [(.ref t)] [] (rlN (S5.at 2 rfl) rl0) ?_
  rintro T7 _ _ _ ⟨rfl, rfl, rfl⟩ hro7 S7
  replace S7 := S7.n0
  refine C.putfieldN S7 (W H 29 rfl) Via.refl (D14 15 rfl) 0 rfl 0 rfl (Or.inr ⟨(W H 25 rfl), rfl, rfl⟩) (W H 10 rfl) (ty := .byte) (by decide) rfl rfl 51 rfl fun T8 S8 => C.a1 S8 (D14 16 rfl) rfl rfl <| C.a2 S8 (D14 17 rfl) rfl rfl <| C.putfield S8 (host := "") (Or.inl (W H 28 rfl)) Via.refl (D14 18 rfl) 0 rfl 1 rfl (Or.inr ⟨(W H 24 rfl), rfl, rfl⟩) (W H 10 rfl) (ty := (.array .byte)) (by decide) rfl rfl 57 rfl fun T9 S9 => ?_
  exact C.rV S9 (D14 19 rfl) [0, 1, 2] ⟨b6, rfl, rfl, rfl⟩
theorem si1_2_0 (H : Hy a0 Z cst dce nona sfv) (t a : Addr) (c0 c1 : Int32) (u0 : 255 < c0) (k0 : Chr c0) :
    Con lch Z consts_1 Y15 jdk_42_method_3_code 2 none (rm 5 2 6 74) #[(.ref t), (.ref a)] [(t, O0 Z (.int 0) .null), (a, Ary Z .char [(.int c0), (.int c1)])] []
      (fun rv L1 M1 => ∃ (b : Addr), rv = none ∧ L1 = [(t, O0 Z (.int 1) (.ref b)), (a, Ary Z .char [(.int c0), (.int c1)]), (b, Ary Z .byte [(.int (blo c0)), (.int (bhi c0)), (.int (blo c1)), (.int (bhi c1))])] ∧ M1 = []) := by
  refine Con.ob #[vr t, vr a] (plainFor_of_name pn0) ?_
  intro p e s m below meth c T0 h0 C S0
  refine C.a1 S0 (D15 0 rfl) rfl rfl <| C.a1 S0 (D15 1 rfl) rfl rfl <| C.k1 S0 (D15 2 rfl) 0 rfl <| C.a1 S0 (D15 3 rfl) rfl rfl <| C.arraylength S0 (S0.at 1 rfl) (D15 4 rfl) 5 rfl (2 : Int32) rfl <| C.aconstNull S0 (D15 5 rfl) 6 rfl <| C.xi (a := t) S0 (W H 15 rfl) (W H 16 rfl) (W H 11 rfl) (W H 18 rfl) (si5_2_0 H t a c0 c1 u0 k0) (D15 6 rfl) pd7 [(.ref a), (.int 0), (.int 2), .null] [] [0, 1] rl0 ?_
  rintro T1 _ _ _ ⟨b2, rfl, rfl, rfl⟩ hro1 S1
  replace S1 := S1.nc (L' := [(t, O0 Z (.int 1) (.ref b2)), (a, Ary Z .char [(.int c0), (.int c1)]), (b2, Ary Z .byte [(.int (blo c0)), (.int (bhi c0)), (.int (blo c1)), (.int (bhi c1))])]) rfl
  exact C.rV S1 (D15 7 rfl) [0, 1, 2] ⟨b2, rfl, rfl, rfl⟩
theorem co5_2_1 (H : Hy a0 Z cst dce nona sfv) (a b : Addr) (c0 c1 : Int32) (q0 : ¬ c0 < 0 ∧ ¬ 255 < c0) (u1 : 255 < c1) :
    Con lch Z consts_1 Y12 jdk_52_method_21_code 7 (some .int) (rm 0 0 0 0) #[(.ref a), (.int 0), (.ref b), (.int 0), (.int 2)] [(a, Ary Z .char [(.int c0), (.int c1)]), (b, Ary Z .byte [(.int 0), (.int 0)])] []
      (fun rv L1 M1 => rv = some (.int 1) ∧ L1 = [(a, Ary Z .char [(.int c0), (.int c1)]), (b, Ary Z .byte [(.int (c0.toInt8.toInt32)), (.int 0)])] ∧ M1 = []) := by
  refine Con.ob #[vr a, vi 0, vr b, vi 0, vi 2, us, us] (plainFor_of_name pn3) ?_
  intro p e s m below meth c T0 h0 C S0
  refine C.k1 S0 (D12 0 rfl) 0 rfl <| C.istore S0 (D12 1 rfl) 3 rfl #[vr a, vi 0, vr b, vi 0, vi 2, vi 0, us] rfl <| C.i2 S0 (D12 2 rfl) rfl <| C.i2 S0 (D12 3 rfl) rfl <| C.icmp_geF S0 (D12 4 rfl) 10 rfl (by decide) <| C.a1 S0 (D12 5 rfl) rfl rfl <| C.i1 S0 (D12 6 rfl) rfl <| C.caload S0 (S0.at 0 rfl) (D12 7 rfl) 13 rfl (by decide) 0 rfl rfl <| C.istore S0 (D12 8 rfl) 15 rfl #[vr a, vi 0, vr b, vi 0, vi 2, vi 0, vi c0] rfl <| C.i2 S0 (D12 9 rfl) rfl <| C.k3 S0 (D12 10 rfl) 255 rfl ?_
  refine C.icmp_le S0 (D12 11 rfl) 26 23 (by decide) (by decide) rfl (fun hc2 => ?_) fun hc2 => absurd hc2 q0.2
  refine C.a1 S0 (D12 14 rfl) rfl rfl <| C.i1 S0 (D12 15 rfl) rfl <| C.i2 S0 (D12 16 rfl) rfl <| C.i2b S0 (D12 17 rfl) 31 rfl (c0.toInt8.toInt32) rfl <| C.bastore S0 1 rfl (D12 18 rfl) 32 rfl (by decide) 0 rfl (leD rfl) (c0.toInt8.toInt32) (by simp [nar]) fun T3 S3 => C.iinc S3 (D12 19 rfl) 35 rfl rfl 1 1 rfl (by decide) #[vr a, vi 1, vr b, vi 0, vi 2, vi 0, vi c0] rfl <| C.iinc S3 (D12 20 rfl) 38 rfl rfl 1 1 rfl (by decide) #[vr a, vi 1, vr b, vi 1, vi 2, vi 0, vi c0] rfl <| C.iinc S3 (D12 21 rfl) 41 rfl rfl 1 1 rfl (by decide) #[vr a, vi 1, vr b, vi 1, vi 2, vi 1, vi c0] rfl <| C.g S3 (D12 22 rfl) 3 rfl <| C.i2 S3 (D12 2 rfl) rfl <| C.i2 S3 (D12 3 rfl) rfl <| C.icmp_geF S3 (D12 4 rfl) 10 rfl (by decide) <| C.a1 S3 (D12 5 rfl) rfl rfl <| C.i1 S3 (D12 6 rfl) rfl <| C.caload S3 (S3.at 0 rfl) (D12 7 rfl) 13 rfl (by decide) 1 rfl rfl <| C.istore S3 (D12 8 rfl) 15 rfl #[vr a, vi 1, vr b, vi 1, vi 2, vi 1, vi c1] rfl ?_
  refine C.i2 S3 (D12 9 rfl) rfl <| C.k3 S3 (D12 10 rfl) 255 rfl <| C.icmp_le S3 (D12 11 rfl) 26 23 (by decide) (by decide) rfl (fun hc5 => absurd u1 hc5) fun hc5 => C.i2 S3 (D12 12 rfl) rfl ?_
  exact C.rI S3 (D12 13 rfl) [0, 1] ⟨rfl, rfl, rfl⟩
theorem co3_2_1 (H : Hy a0 Z cst dce nona sfv) (a : Addr) (c0 c1 : Int32) (q0 : ¬ c0 < 0 ∧ ¬ 255 < c0) (u1 : 255 < c1) (k1 : Chr c1) :
    Con lch Z consts_1 Y13 jdk_52_method_16_code 6 (Option.some (Jvm.ClassFile.FieldType.array Jvm.ClassFile.FieldType.byte)) (rm 3 2 6 40) #[(.ref a), (.int 0), (.int 2)] [(a, Ary Z .char [(.int c0), (.int c1)])] []
      (fun rv L1 M1 => ∃ (b : Addr), rv = some (.ref b) ∧ L1 = [(a, Ary Z .char [(.int c0), (.int c1)]), (b, Ary Z .byte [(.int (blo c0)), (.int (bhi c0)), (.int (blo c1)), (.int (bhi c1))])] ∧ M1 = []) := by
  refine Con.ob #[vr a, vi 0, vi 2, us, us, us] (plainFor_of_name pn3) ?_
  intro p e s m below meth c T0 h0 C S0
  refine C.i1 S0 (D13 0 rfl) rfl <| C.newarray (aty := .byte) S0 (W H 23 rfl) (D13 1 rfl) 3 rfl (by decide) 2 rfl 2 (leD rfl) (by decide) (leD rfl) (leD rfl) fun T1 b1 S1 => C.astoreN S1 (D13 2 rfl) 4 rfl rfl #[vr a, vi 0, vi 2, vr b1, us, us] rfl <| C.a1 S1 (D13 3 rfl) rfl rfl <| C.i1 S1 (D13 4 rfl) rfl <| C.a1 S1 (D13 5 rfl) rfl rfl <| C.k1 S1 (D13 6 rfl) 0 rfl <| C.i1 S1 (D13 7 rfl) rfl <| C.xs S1 (W H 322 rfl) (W H 323 rfl) (W H 320 rfl) (W H 324 rfl) (co5_2_1 H a b1 c0 c1 q0 u1) (D13 8 rfl) pd3 [(.ref a), (.int 0), (.ref b1), (.int 0), (.int 2)] [] [0, 1] rl0 ?_
  rintro T2 _ _ _ ⟨rfl, rfl, rfl⟩ hro2 S2
  replace S2 := S2.nc (L' := [(a, Ary Z .char [(.int c0), (.int c1)]), (b1, Ary Z .byte [(.int (c0.toInt8.toInt32)), (.int 0)])]) rfl
  refine C.istore S2 (D13 9 rfl) 14 rfl #[vr a, vi 0, vi 2, vr b1, vi 1, us] rfl <| C.i2 S2 (D13 10 rfl) rfl <| C.i1 S2 (D13 11 rfl) rfl <| C.icmp_eqF S2 (D13 12 rfl) 20 rfl (by decide) <| C.a1 S2 (D13 13 rfl) rfl rfl <| C.i1 S2 (D13 14 rfl) rfl <| C.i1 S2 (D13 15 rfl) rfl <| C.xs S2 (W H 325 rfl) (W H 326 rfl) (W H 320 rfl) (W H 327 rfl) (toB2 H a c0 c1) (D13 16 rfl) pd4 [(.ref a), (.int 0), (.int 2)] [] [0] rl0 ?_
  rintro T4 _ _ _ ⟨b5, rfl, rfl, rfl⟩ hro4 S4
  replace S4 := S4.nc (L' := [(a, Ary Z .char [(.int c0), (.int c1)]), (b1, Ary Z .byte [(.int (c0.toInt8.toInt32)), (.int 0)]), (b5, Ary Z .byte [(.int (blo c0)), (.int (bhi c0)), (.int (blo c1)), (.int (bhi c1))])]) rfl
  refine C.astore S4 (D13 17 rfl) 28 rfl rfl #[vr a, vi 0, vi 2, vr b1, vi 1, vr b5] rfl <| C.a2 S4 (D13 18 rfl) rfl rfl <| C.i2 S4 (D13 19 rfl) rfl <| C.xs S4 (W H 341 rfl) (W H 342 rfl) (W H 320 rfl) (W H 343 rfl) (getG H b5 ([c0, c1] : List Int32) 1 (leD rfl) (leD rfl) k1) (D13 20 rfl) pd5 [(.ref b5), (.int 1)] [] [] (rlN (S4.at 2 rfl) rl0) ?_
  rintro T6 _ _ _ ⟨rfl, rfl, rfl⟩ hro6 S6
  replace S6 := S6.n0
  refine C.k3 S6 (D13 21 rfl) 255 rfl ?_
  refine C.icmp_gt S6 (D13 22 rfl) 54 41 (by decide) (by decide) rfl (fun hc7 => ?_) fun hc7 => absurd u1 hc7
  refine C.a2 S6 (D13 23 rfl) rfl rfl ?_
  exact C.rA S6 rfl rfl (D13 24 rfl) [0, 2] ⟨b5, rfl, rfl, rfl⟩
theorem si5_2_1 (H : Hy a0 Z cst dce nona sfv) (t a : Addr) (c0 c1 : Int32) (q0 : ¬ c0 < 0 ∧ ¬ 255 < c0) (u1 : 255 < c1) (k1 : Chr c1) :
    Con lch Z consts_1 Y14 jdk_42_method_149_code 6 none (rm 4 2 6 57) #[(.ref t), (.ref a), (.int 0), (.int 2), .null] [(t, O0 Z (.int 0) .null), (a, Ary Z .char [(.int c0), (.int c1)])] []
      (fun rv L1 M1 => ∃ (b : Addr), rv = none ∧ L1 = [(t, O0 Z (.int 1) (.ref b)), (a, Ary Z .char [(.int c0), (.int c1)]), (b, Ary Z .byte [(.int (blo c0)), (.int (bhi c0)), (.int (blo c1)), (.int (bhi c1))])] ∧ M1 = []) := by
  refine Con.ob #[vr t, vr a, vi 0, vi 2, .val .null, us] (plainFor_of_name pn0) ?_
  intro p e s m below meth c T0 h0 C S0
  refine C.a1 S0 (D14 0 rfl) rfl rfl <| C.objInit S0 (W H 19 rfl) (W H 20 rfl) (W H 21 rfl) (D14 1 rfl) 4 rfl rfl (leD rfl) (leD rfl) fun T1 S1 => C.i1 S1 (D14 2 rfl) rfl <| C.if_neT S1 (D14 3 rfl) 27 rfl (by decide) <| C.getstatic S1 (host := "") (Or.inl (W H 263 rfl)) Via.refl (D14 4 rfl) H.2.1 30 rfl fun T3 S3 => C.if_eq S3 (D14 5 rfl) 58 33 (by decide) (by decide) rfl (fun hc4 => absurd hc4 H.2.2.1) fun hc4 => C.a1 S3 (D14 6 rfl) rfl rfl <| C.i1 S3 (D14 7 rfl) rfl <| C.i1 S3 (D14 8 rfl) rfl <| C.xs S3 (W H 318 rfl) (W H 319 rfl) (W H 320 rfl) (W H 321 rfl) (co3_2_1 H a c0 c1 q0 u1 k1) (D14 9 rfl) pd4 [(.ref a), (.int 0), (.int 2)] [] [1] rl0 ?_
  rintro T5 _ _ _ ⟨b6, rfl, rfl, rfl⟩ hro5 S5
  replace S5 := S5.nc (L' := [(t, O0 Z (.int 0) .null), (a, Ary Z .char [(.int c0), (.int c1)]), (b6, Ary Z .byte [(.int (blo c0)), (.int (bhi c0)), (.int (blo c1)), (.int (bhi c1))])]) rfl
  refine C.astore S5 (D14 10 rfl) 41 rfl rfl #[vr t, vr a, vi 0, vi 2, .val .null, vr b6] rfl <| C.a1 S5 (D14 11 rfl) rfl rfl <| C.a2 S5 (D14 12 rfl) rfl rfl <| C.i1 S5 (D14 13 rfl) rfl <| C.xs S5 (W H 344 rfl) (W H 345 rfl) (W H 320 rfl) (W H 346 rfl) (coderU2 H b6 c0 c1) (D14 14 rfl) pd6 [(.ref b6), (.int 2)] [(.ref t)] [] (rlN (S5.at 2 rfl) rl0) ?_
  rintro T7 _ _ _ ⟨rfl, rfl, rfl⟩ hro7 S7
  replace S7 := S7.n0
  refine C.putfieldN S7 (W H 29 rfl) Via.refl (D14 15 rfl) 0 rfl 0 rfl (Or.inr ⟨(W H 25 rfl), rfl, rfl⟩) (W H 10 rfl) (ty := .byte) (by decide) rfl rfl 51 rfl fun T8 S8 => C.a1 S8 (D14 16 rfl) rfl rfl <| C.a2 S8 (D14 17 rfl) rfl rfl <| C.putfield S8 (host := "") (Or.inl (W H 28 rfl)) Via.refl (D14 18 rfl) 0 rfl 1 rfl (Or.inr ⟨(W H 24 rfl), rfl, rfl⟩) (W H 10 rfl) (ty := (.array .byte)) (by decide) rfl rfl 57 rfl fun T9 S9 => ?_
  exact C.rV S9 (D14 19 rfl) [0, 1, 2] ⟨b6, rfl, rfl, rfl⟩
theorem si1_2_1 (H : Hy a0 Z cst dce nona sfv) (t a : Addr) (c0 c1 : Int32) (q0 : ¬ c0 < 0 ∧ ¬ 255 < c0) (u1 : 255 < c1) (k1 : Chr c1) :
    Con lch Z consts_1 Y15 jdk_42_method_3_code 2 none (rm 5 2 6 74) #[(.ref t), (.ref a)] [(t, O0 Z (.int 0) .null), (a, Ary Z .char [(.int c0), (.int c1)])] []
      (fun rv L1 M1 => ∃ (b : Addr), rv = none ∧ L1 = [(t, O0 Z (.int 1) (.ref b)), (a, Ary Z .char [(.int c0), (.int c1)]), (b, Ary Z .byte [(.int (blo c0)), (.int (bhi c0)), (.int (blo c1)), (.int (bhi c1))])] ∧ M1 = []) := by
  refine Con.ob #[vr t, vr a] (plainFor_of_name pn0) ?_
  intro p e s m below meth c T0 h0 C S0
  refine C.a1 S0 (D15 0 rfl) rfl rfl <| C.a1 S0 (D15 1 rfl) rfl rfl <| C.k1 S0 (D15 2 rfl) 0 rfl <| C.a1 S0 (D15 3 rfl) rfl rfl <| C.arraylength S0 (S0.at 1 rfl) (D15 4 rfl) 5 rfl (2 : Int32) rfl <| C.aconstNull S0 (D15 5 rfl) 6 rfl <| C.xi (a := t) S0 (W H 15 rfl) (W H 16 rfl) (W H 11 rfl) (W H 18 rfl) (si5_2_1 H t a c0 c1 q0 u1 k1) (D15 6 rfl) pd7 [(.ref a), (.int 0), (.int 2), .null] [] [0, 1] rl0 ?_
  rintro T1 _ _ _ ⟨b2, rfl, rfl, rfl⟩ hro1 S1
  replace S1 := S1.nc (L' := [(t, O0 Z (.int 1) (.ref b2)), (a, Ary Z .char [(.int c0), (.int c1)]), (b2, Ary Z .byte [(.int (blo c0)), (.int (bhi c0)), (.int (blo c1)), (.int (bhi c1))])]) rfl
  exact C.rV S1 (D15 7 rfl) [0, 1, 2] ⟨b2, rfl, rfl, rfl⟩
theorem coderU3 (H : Hy a0 Z cst dce nona sfv) (b : Addr) (c0 c1 c2 : Int32) :
    Con lch Z consts_1 Y11 jdk_52_method_15_code 2 (some .byte) (rm 0 0 0 0) #[(.ref b), (.int 3)] [] [(b, Ary Z .byte [(.int (blo c0)), (.int (bhi c0)), (.int (blo c1)), (.int (bhi c1)), (.int (blo c2)), (.int (bhi c2))])]
      (fun rv L1 M1 => rv = some (.int 1) ∧ L1 = [] ∧ M1 = []) := by
  refine Con.ob #[vr b, vi 3] (plainFor_of_name pn3) ?_
  intro p e s m below meth c T0 h0 C S0
  refine C.i1 S0 (D11 0 rfl) rfl <| C.a1 S0 (D11 1 rfl) rfl rfl <| C.arraylength S0 (S0.atM 0 rfl) (D11 2 rfl) 3 rfl (6 : Int32) rfl <| C.isub S0 (D11 3 rfl) 4 rfl (-3 : Int32) (by decide) <| C.k2 S0 (D11 4 rfl) 31 rfl <| C.iushr S0 (D11 5 rfl) 7 rfl (1 : Int32) (by decide) <| C.i2b S0 (D11 6 rfl) 8 rfl (1 : Int32) (by decide) ?_
  exact C.rN S0 (D11 7 rfl) 1 (by decide) [] ⟨rfl, rfl, rfl⟩
theorem co5_3_0 (H : Hy a0 Z cst dce nona sfv) (a b : Addr) (c0 c1 c2 : Int32) (u0 : 255 < c0) :
    Con lch Z consts_1 Y12 jdk_52_method_21_code 7 (some .int) (rm 0 0 0 0) #[(.ref a), (.int 0), (.ref b), (.int 0), (.int 3)] [(a, Ary Z .char [(.int c0), (.int c1), (.int c2)]), (b, Ary Z .byte [(.int 0), (.int 0), (.int 0)])] []
      (fun rv L1 M1 => rv = some (.int 0) ∧ L1 = [(a, Ary Z .char [(.int c0), (.int c1), (.int c2)]), (b, Ary Z .byte [(.int 0), (.int 0), (.int 0)])] ∧ M1 = []) := by
  refine Con.ob #[vr a, vi 0, vr b, vi 0, vi 3, us, us] (plainFor_of_name pn3) ?_
  intro p e s m below meth c T0 h0 C S0
  refine C.k1 S0 (D12 0 rfl) 0 rfl <| C.istore S0 (D12 1 rfl) 3 rfl #[vr a, vi 0, vr b, vi 0, vi 3, vi 0, us] rfl <| C.i2 S0 (D12 2 rfl) rfl <| C.i2 S0 (D12 3 rfl) rfl <| C.icmp_geF S0 (D12 4 rfl) 10 rfl (by decide) <| C.a1 S0 (D12 5 rfl) rfl rfl <| C.i1 S0 (D12 6 rfl) rfl <| C.caload S0 (S0.at 0 rfl) (D12 7 rfl) 13 rfl (by decide) 0 rfl rfl <| C.istore S0 (D12 8 rfl) 15 rfl #[vr a, vi 0, vr b, vi 0, vi 3, vi 0, vi c0] rfl <| C.i2 S0 (D12 9 rfl) rfl <| C.k3 S0 (D12 10 rfl) 255 rfl <| C.icmp_le S0 (D12 11 rfl) 26 23 (by decide) (by decide) rfl (fun hc2 => absurd u0 hc2) fun hc2 => C.i2 S0 (D12 12 rfl) rfl ?_
  exact C.rI S0 (D12 13 rfl) [0, 1] ⟨rfl, rfl, rfl⟩
theorem co3_3_0 (H : Hy a0 Z cst dce nona sfv) (a : Addr) (c0 c1 c2 : Int32) (u0 : 255 < c0) (k0 : Chr c0) :
    Con lch Z consts_1 Y13 jdk_52_method_16_code 6 (Option.some (Jvm.ClassFile.FieldType.array Jvm.ClassFile.FieldType.byte)) (rm 3 2 9 40) #[(.ref a), (.int 0), (.int 3)] [(a, Ary Z .char [(.int c0), (.int c1), (.int c2)])] []
      (fun rv L1 M1 => ∃ (b : Addr), rv = some (.ref b) ∧ L1 = [(a, Ary Z .char [(.int c0), (.int c1), (.int c2)]), (b, Ary Z .byte [(.int (blo c0)), (.int (bhi c0)), (.int (blo c1)), (.int (bhi c1)), (.int (blo c2)), (.int (bhi c2))])] ∧ M1 = []) := by
  refine Con.ob #[vr a, vi 0, vi 3, us, us, us] (plainFor_of_name pn3) ?_
  intro p e s m below meth c T0 h0 C S0
  refine C.i1 S0 (D13 0 rfl) rfl <| C.newarray (aty := .byte) S0 (W H 23 rfl) (D13 1 rfl) 3 rfl (by decide) 3 rfl 3 (leD rfl) (by decide) (leD rfl) (leD rfl) fun T1 b1 S1 => C.astoreN S1 (D13 2 rfl) 4 rfl rfl #[vr a, vi 0, vi 3, vr b1, us, us] rfl <| C.a1 S1 (D13 3 rfl) rfl rfl <| C.i1 S1 (D13 4 rfl) rfl <| C.a1 S1 (D13 5 rfl) rfl rfl <| C.k1 S1 (D13 6 rfl) 0 rfl <| C.i1 S1 (D13 7 rfl) rfl <| C.xs S1 (W H 322 rfl) (W H 323 rfl) (W H 320 rfl) (W H 324 rfl) (co5_3_0 H a b1 c0 c1 c2 u0) (D13 8 rfl) pd3 [(.ref a), (.int 0), (.ref b1), (.int 0), (.int 3)] [] [0, 1] rl0 ?_
  rintro T2 _ _ _ ⟨rfl, rfl, rfl⟩ hro2 S2
  replace S2 := S2.nc (L' := [(a, Ary Z .char [(.int c0), (.int c1), (.int c2)]), (b1, Ary Z .byte [(.int 0), (.int 0), (.int 0)])]) rfl
  refine C.istore S2 (D13 9 rfl) 14 rfl #[vr a, vi 0, vi 3, vr b1, vi 0, us] rfl <| C.i2 S2 (D13 10 rfl) rfl <| C.i1 S2 (D13 11 rfl) rfl <| C.icmp_eqF S2 (D13 12 rfl) 20 rfl (by decide) <| C.a1 S2 (D13 13 rfl) rfl rfl <| C.i1 S2 (D13 14 rfl) rfl <| C.i1 S2 (D13 15 rfl) rfl <| C.xs S2 (W H 325 rfl) (W H 326 rfl) (W H 320 rfl) (W H 327 rfl) (toB3 H a c0 c1 c2) (D13 16 rfl) pd4 [(.ref a), (.int 0), (.int 3)] [] [0] rl0 ?_
  rintro T4 _ _ _ ⟨b5, rfl, rfl, rfl⟩ hro4 S4
  replace S4 := S4.nc (L' := [(a, Ary Z .char [(.int c0), (.int c1), (.int c2)]), (b1, Ary Z .byte [(.int 0), (.int 0), (.int 0)]), (b5, Ary Z .byte [(.int (blo c0)), (.int (bhi c0)), (.int (blo c1)), (.int (bhi c1)), (.int (blo c2)), (.int (bhi c2))])]) rfl
  refine C.astore S4 (D13 17 rfl) 28 rfl rfl #[vr a, vi 0, vi 3, vr b1, vi 0, vr b5] rfl <| C.a2 S4 (D13 18 rfl) rfl rfl <| C.i2 S4 (D13 19 rfl) rfl <| C.xs S4 (W H 341 rfl) (W H 342 rfl) (W H 320 rfl) (W H 343 rfl) (getG H b5 ([c0, c1, c2] : List Int32) 0 (leD rfl) (leD rfl) k0) (D13 20 rfl) pd5 [(.ref b5), (.int 0)] [] [] (rlN (S4.at 2 rfl) rl0) ?_
  rintro T6 _ _ _ ⟨rfl, rfl, rfl⟩ hro6 S6
  replace S6 := S6.n0
  refine C.k3 S6 (D13 21 rfl) 255 rfl ?_
  refine C.icmp_gt S6 (D13 22 rfl) 54 41 (by decide) (by decide) rfl (fun hc7 => ?_) fun hc7 => absurd u0 hc7
  refine C.a2 S6 (D13 23 rfl) rfl rfl ?_
  exact C.rA S6 rfl rfl (D13 24 rfl) [0, 2] ⟨b5, rfl, rfl, rfl⟩
theorem si5_3_0 (H : Hy a0 Z cst dce nona sfv) (t a : Addr) (c0 c1 c2 : Int32) (u0 : 255 < c0) (k0 : Chr c0) :
    Con lch Z consts_1 Y14 jdk_42_method_149_code 6 none (rm 4 2 9 57) #[(.ref t), (.ref a), (.int 0), (.int 3), .null] [(t, O0 Z (.int 0) .null), (a, Ary Z .char [(.int c0), (.int c1), (.int c2)])] []
      (fun rv L1 M1 => ∃ (b : Addr), rv = none ∧ L1 = [(t, O0 Z (.int 1) (.ref b)), (a, Ary Z .char [(.int c0), (.int c1), (.int c2)]), (b, Ary Z .byte [(.int (blo c0)), (.int (bhi c0)), (.int (blo c1)), (.int (bhi c1)), (.int (blo c2)), (.int (bhi c2))])] ∧ M1 = []) := by
  refine Con.ob #[vr t, vr a, vi 0, vi 3, .val .null, us] (plainFor_of_name pn0) ?_
  intro p e s m below meth c T0 h0 C S0
  refine C.a1 S0 (D14 0 rfl) rfl rfl <| C.objInit S0 (W H 19 rfl) (W H 20 rfl) (W H 21 rfl) (D14 1 rfl) 4 rfl rfl (leD rfl) (leD rfl) fun T1 S1 => C.i1 S1 (D14 2 rfl) rfl <| C.if_neT S1 (D14 3 rfl) 27 rfl (by decide) <| C.getstatic S1 (host := "") (Or.inl (W H 263 rfl)) Via.refl (D14 4 rfl) H.2.1 30 rfl fun T3 S3 => C.if_eq S3 (D14 5 rfl) 58 33 (by decide) (by decide) rfl (fun hc4 => absurd hc4 H.2.2.1) fun hc4 => C.a1 S3 (D14 6 rfl) rfl rfl <| C.i1 S3 (D14 7 rfl) rfl <| C.i1 S3 (D14 8 rfl) rfl <| C.xs S3 (W H 318 rfl) (W H 319 rfl) (W H 320 rfl) (W H 321 rfl) (co3_3_0 H a c0 c1 c2 u0 k0) (D14 9 rfl) pd4 [(.ref a), (.int 0), (.int 3)] [] [1] rl0 ?_
  rintro T5 _ _ _ ⟨b6, rfl, rfl, rfl⟩ hro5 S5
  replace S5 := S5.nc (L' := [(t, O0 Z (.int 0) .null), (a, Ary Z .char [(.int c0), (.int c1), (.int c2)]), (b6, Ary Z .byte [(.int (blo c0)), (.int (bhi c0)), (.int (blo c1)), (.int (bhi c1)), (.int (blo c2)), (.int (bhi c2))])]) rfl
  refine C.astore S5 (D14 10 rfl) 41 rfl rfl #[vr t, vr a, vi 0, vi 3, .val .null, vr b6] rfl <| C.a1 S5 (D14 11 rfl) rfl rfl <| C.a2 S5 (D14 12 rfl) rfl rfl <| C.i1 S5 (D14 13 rfl) rfl <| C.xs S5 (W H 344 rfl) (W H 345 rfl) (W H 320 rfl) (W H 346 rfl) (coderU3 H b6 c0 c1 c2) (D14 14 rfl) pd6 [(.ref b6), (.int 3)] [(.ref t)] [] (rlN (S5.at 2 rfl) rl0) ?_
  rintro T7 _ _ _ ⟨rfl, rfl, rfl⟩ hro7 S7
  replace S7 := S7.n0
  refine C.putfieldN S7 (W H 29 rfl) Via.refl (D14 15 rfl) 0 rfl 0 rfl (Or.inr ⟨(W H 25 rfl), rfl, rfl⟩) (W H 10 rfl) (ty := .byte) (by decide) rfl rfl 51 rfl fun T8 S8 => C.a1 S8 (D14 16 rfl) rfl rfl <| C.a2 S8 (D14 17 rfl) rfl rfl <| C.putfield S8 (host := "") (Or.inl (W H 28 rfl)) Via.refl (D14 18 rfl) 0 rfl 1 rfl (Or.inr ⟨(W H 24 rfl), rfl, rfl⟩) (W H 10 rfl) (ty := (.array .byte)) (by decide) rfl rfl 57 rfl fun T9 S9 => ?_
  exact C.rV S9 (D14 19 rfl) [0, 1, 2] ⟨b6, rfl, rfl, rfl⟩
theorem si1_3_0 (H : Hy a0 Z cst dce nona sfv) (t a : Addr) (c0 c1 c2 : Int32) (u0 : 255 < c0) (k0 : Chr c0) :
    Con lch Z consts_1 Y15 jdk_42_method_3_code 2 none (rm 5 2 9 74) #[(.ref t), (.ref a)] [(t, O0 Z (.int 0) .null), (a, Ary Z .char [(.int c0), (.int c1), (.int c2)])] []
      (fun rv L1 M1 => ∃ (b : Addr), rv = none ∧ L1 = [(t, O0 Z (.int 1) (.ref b)), (a, Ary Z .char [(.int c0), (.int c1), (.int c2)]), (b, Ary Z .byte [(.int (blo c0)), (.int (bhi c0)), (.int (blo c1)), (.int (bhi c1)), (.int (blo c2)), (.int (bhi c2))])] ∧ M1 = []) := by
  refine Con.ob #[vr t, vr a] (plainFor_of_name pn0) ?_
  intro p e s m below meth c T0 h0 C S0
  refine C.a1 S0 (D15 0 rfl) rfl rfl <| C.a1 S0 (D15 1 rfl) rfl rfl <| C.k1 S0 (D15 2 rfl) 0 rfl <| C.a1 S0 (D15 3 rfl) rfl rfl <| C.arraylength S0 (S0.at 1 rfl) (D15 4 rfl) 5 rfl (3 : Int32) rfl <| C.aconstNull S0 (D15 5 rfl) 6 rfl <| C.xi (a := t) S0 (W H 15 rfl) (W H 16 rfl) (W H 11 rfl) (W H 18 rfl) (si5_3_0 H t a c0 c1 c2 u0 k0) (D15 6 rfl) pd7 [(.ref a), (.int 0), (.int 3), .null] [] [0, 1] rl0 ?_
  rintro T1 _ _ _ ⟨b2, rfl, rfl, rfl⟩ hro1 S1
  replace S1 := S1.nc (L' := [(t, O0 Z (.int 1) (.ref b2)), (a, Ary Z .char [(.int c0), (.int c1), (.int c2)]), (b2, Ary Z .byte [(.int (blo c0)), (.int (bhi c0)), (.int (blo c1)), (.int (bhi c1)), (.int (blo c2)), (.int (bhi c2))])]) rfl
  exact C.rV S1 (D15 7 rfl) [0, 1, 2] ⟨b2, rfl, rfl, rfl⟩
theorem co5_3_1 (H : Hy a0 Z cst dce nona sfv) (a b : Addr) (c0 c1 c2 : Int32) (q0 : ¬ c0 < 0 ∧ ¬ 255 < c0) (u1 : 255 < c1) :
    Con lch Z consts_1 Y12 jdk_52_method_21_code 7 (some .int) (rm 0 0 0 0) #[(.ref a), (.int 0), (.ref b), (.int 0), (.int 3)] [(a, Ary Z .char [(.int c0), (.int c1), (.int c2)]), (b, Ary Z .byte [(.int 0), (.int 0), (.int 0)])] []
      (fun rv L1 M1 => rv = some (.int 1) ∧ L1 = [(a, Ary Z .char [(.int c0), (.int c1), (.int c2)]), (b, Ary Z .byte [(.int (c0.toInt8.toInt32)), (.int 0), (.int 0)])] ∧ M1 = []) := by
  refine Con.ob #[vr a, vi 0, vr b, vi 0, vi 3, us, us] (plainFor_of_name pn3) ?_
  intro p e s m below meth c T0 h0 C S0
  refine C.k1 S0 (D12 0 rfl) 0 rfl <| C.istore S0 (D12 1 rfl) 3 rfl #[vr a, vi 0, vr b, vi 0, vi 3, vi 0, us] rfl <| C.i2 S0 (D12 2 rfl) rfl <| C.i2 S0 (D12 3 rfl) rfl <| C.icmp_geF S0 (D12 4 rfl) 10 rfl (by decide) <| C.a1 S0 (D12 5 rfl) rfl rfl <| C.i1 S0 (D12 6 rfl) rfl <| C.caload S0 (S0.at 0 rfl) (D12 7 rfl) 13 rfl (by decide) 0 rfl rfl <| C.istore S0 (D12 8 rfl) 15 rfl #[vr a, vi 0, vr b, vi 0, vi 3, vi 0, vi c0] rfl <| C.i2 S0 (D12 9 rfl) rfl <| C.k3 S0 (D12 10 rfl) 255 rfl ?_
  refine C.icmp_le S0 (D12 11 rfl) 26 23 (by decide) (by decide) rfl (fun hc2 => ?_) fun hc2 => absurd hc2 q0.2
  refine C.a1 S0 (D12 14 rfl) rfl rfl <| C.i1 S0 (D12 15 rfl) rfl <| C.i2 S0 (D12 16 rfl) rfl <| C.i2b S0 (D12 17 rfl) 31 rfl (c0.toInt8.toInt32) rfl <| C.bastore S0 1 rfl (D12 18 rfl) 32 rfl (by decide) 0 rfl (leD rfl) (c0.toInt8.toInt32) (by simp [nar]) fun T3 S3 => C.iinc S3 (D12 19 rfl) 35 rfl rfl 1 1 rfl (by decide) #[vr a, vi 1, vr b, vi 0, vi 3, vi 0, vi c0] rfl <| C.iinc S3 (D12 20 rfl) 38 rfl rfl 1 1 rfl (by decide) #[vr a, vi 1, vr b, vi 1, vi 3, vi 0, vi c0] rfl <| C.iinc S3 (D12 21 rfl) 41 rfl rfl 1 1 rfl (by decide) #[vr a, vi 1, vr b, vi 1, vi 3, vi 1, vi c0] rfl <| C.g S3 (D12 22 rfl) 3 rfl <| C.i2 S3 (D12 2 rfl) rfl <| C.i2 S3 (D12 3 rfl) rfl <| C.icmp_geF S3 (D12 4 rfl) 10 rfl (by decide) <| C.a1 S3 (D12 5 rfl) rfl rfl <| C.i1 S3 (D12 6 rfl) rfl <| C.caload S3 (S3.at 0 rfl) (D12 7 rfl) 13 rfl (by decide) 1 rfl rfl <| C.istore S3 (D12 8 rfl) 15 rfl #[vr a, vi 1, vr b, vi 1, vi 3, vi 1, vi c1] rfl ?_
  refine C.i2 S3 (D12 9 rfl) rfl <| C.k3 S3 (D12 10 rfl) 255 rfl <| C.icmp_le S3 (D12 11 rfl) 26 23 (by decide) (by decide) rfl (fun hc5 => absurd u1 hc5) fun hc5 => C.i2 S3 (D12 12 rfl) rfl ?_
  exact C.rI S3 (D12 13 rfl) [0, 1] ⟨rfl, rfl, rfl⟩
theorem co3_3_1 (H : Hy a0 Z cst dce nona sfv) (a : Addr) (c0 c1 c2 : Int32) (q0 : ¬ c0 < 0 ∧ ¬ 255 < c0) (u1 : 255 < c1) (k1 : Chr c1) :
    Con lch Z consts_1 Y13 jdk_52_method_16_code 6 (Option.some (Jvm.ClassFile.FieldType.array Jvm.ClassFile.FieldType.byte)) (rm 3 2 9 40) #[(.ref a), (.int 0), (.int 3)] [(a, Ary Z .char [(.int c0), (.int c1), (.int c2)])] []
      (fun rv L1 M1 => ∃ (b : Addr), rv = some (.ref b) ∧ L1 = [(a, Ary Z .char [(.int c0), (.int c1), (.int c2)]), (b, Ary Z .byte [(.int (blo c0)), (.int (bhi c0)), (.int (blo c1)), (.int (bhi c1)), (.int (blo c2)), (.int (bhi c2))])] ∧ M1 = []) := by
  refine Con.ob #[vr a, vi 0, vi 3, us, us, us] (plainFor_of_name pn3) ?_
  intro p e s m below meth c T0 h0 C S0
  refine C.i1 S0 (D13 0 rfl) rfl <| C.newarray (aty := .byte) S0 (W H 23 rfl) (D13 1 rfl) 3 rfl (by decide) 3 rfl 3 (leD rfl) (by decide) (leD rfl) (leD rfl) fun T1 b1 S1 => C.astoreN S1 (D13 2 rfl) 4 rfl rfl #[vr a, vi 0, vi 3, vr b1, us, us] rfl <| C.a1 S1 (D13 3 rfl) rfl rfl <| C.i1 S1 (D13 4 rfl) rfl <| C.a1 S1 (D13 5 rfl) rfl rfl <| C.k1 S1 (D13 6 rfl) 0 rfl <| C.i1 S1 (D13 7 rfl) rfl <| C.xs S1 (W H 322 rfl) (W H 323 rfl) (W H 320 rfl) (W H 324 rfl) (co5_3_1 H a b1 c0 c1 c2 q0 u1) (D13 8 rfl) pd3 [(.ref a), (.int 0), (.ref b1), (.int 0), (.int 3)] [] [0, 1] rl0 ?_
  rintro T2 _ _ _ ⟨rfl, rfl, rfl⟩ hro2 S2
  replace S2 := S2.nc (L' := [(a, Ary Z .char [(.int c0), (.int c1), (.int c2)]), (b1, Ary Z .byte [(.int (c0.toInt8.toInt32)), (.int 0), (.int 0)])]) rfl
  refine C.istore S2 (D13 9 rfl) 14 rfl #[vr a, vi 0, vi 3, vr b1, vi 1, us] rfl <| C.i2 S2 (D13 10 rfl) rfl <| C.i1 S2 (D13 11 rfl) rfl <| C.icmp_eqF S2 (D13 12 rfl) 20 rfl (by decide) <| C.a1 S2 (D13 13 rfl) rfl rfl <| C.i1 S2 (D13 14 rfl) rfl <| C.i1 S2 (D13 15 rfl) rfl <| C.xs S2 (W H 325 rfl) (W H 326 rfl) (W H 320 rfl) (W H 327 rfl) (toB3 H a c0 c1 c2) (D13 16 rfl) pd4 [(.ref a), (.int 0), (.int 3)] [] [0] rl0 ?_
  rintro T4 _ _ _ ⟨b5, rfl, rfl, rfl⟩ hro4 S4
  replace S4 := S4.nc (L' := [(a, Ary Z .char [(.int c0), (.int c1), (.int c2)]), (b1, Ary Z .byte [(.int (c0.toInt8.toInt32)), (.int 0), (.int 0)]), (b5, Ary Z .byte [(.int (blo c0)), (.int (bhi c0)), (.int (blo c1)), (.int (bhi c1)), (.int (blo c2)), (.int (bhi c2))])]) rfl
  refine C.astore S4 (D13 17 rfl) 28 rfl rfl #[vr a, vi 0, vi 3, vr b1, vi 1, vr b5] rfl <| C.a2 S4 (D13 18 rfl) rfl rfl <| C.i2 S4 (D13 19 rfl) rfl <| C.xs S4 (W H 341 rfl) (W H 342 rfl) (W H 320 rfl) (W H 343 rfl) (getG H b5 ([c0, c1, c2] : List Int32) 1 (leD rfl) (leD rfl) k1) (D13 20 rfl) pd5 [(.ref b5), (.int 1)] [] [] (rlN (S4.at 2 rfl) rl0) ?_
  rintro T6 _ _ _ ⟨rfl, rfl, rfl⟩ hro6 S6
  replace S6 := S6.n0
  refine C.k3 S6 (D13 21 rfl) 255 rfl ?_
  refine C.icmp_gt S6 (D13 22 rfl) 54 41 (by decide) (by decide) rfl (fun hc7 => ?_) fun hc7 => absurd u1 hc7
  refine C.a2 S6 (D13 23 rfl) rfl rfl ?_
  exact C.rA S6 rfl rfl (D13 24 rfl) [0, 2] ⟨b5, rfl, rfl, rfl⟩
theorem si5_3_1 (H : Hy a0 Z cst dce nona sfv) (t a : Addr) (c0 c1 c2 : Int32) (q0 : ¬ c0 < 0 ∧ ¬ 255 < c0) (u1 : 255 < c1) (k1 : Chr c1) :
    Con lch Z consts_1 Y14 jdk_42_method_149_code 6 none (rm 4 2 9 57) #[(.ref t), (.ref a), (.int 0), (.int 3), .null] [(t, O0 Z (.int 0) .null), (a, Ary Z .char [(.int c0), (.int c1), (.int c2)])] []
      (fun rv L1 M1 => ∃ (b : Addr), rv = none ∧ L1 = [(t, O0 Z (.int 1) (.ref b)), (a, Ary Z .char [(.int c0), (.int c1), (.int c2)]), (b, Ary Z .byte [(.int (blo c0)), (.int (bhi c0)), (.int (blo c1)), (.int (bhi c1)), (.int (blo c2)), (.int (bhi c2))])] ∧ M1 = []) := by
  refine Con.ob #[vr t, vr a, vi 0, vi 3, .val .null, us] (plainFor_of_name pn0) ?_
  intro p e s m below meth c T0 h0 C S0
  refine C.a1 S0 (D14 0 rfl) rfl rfl <| C.objInit S0 (W H 19 rfl) (W H 20 rfl) (W H 21 rfl) (D14 1 rfl) 4 rfl rfl (leD rfl) (leD rfl) fun T1 S1 => C.i1 S1 (D14 2 rfl) rfl <| C.if_neT S1 (D14 3 rfl) 27 rfl (by decide) <| C.getstatic S1 (host := "") (Or.inl (W H 263 rfl)) Via.refl (D14 4 rfl) H.2.1 30 rfl fun T3 S3 => C.if_eq S3 (D14 5 rfl) 58 33 (by decide) (by decide) rfl (fun hc4 => absurd hc4 H.2.2.1) fun hc4 => C.a1 S3 (D14 6 rfl) rfl rfl <| C.i1 S3 (D14 7 rfl) rfl <| C.i1 S3 (D14 8 rfl) rfl <| C.xs S3 (W H 318 rfl) (W H 319 rfl) (W H 320 rfl) (W H 321 rfl) (co3_3_1 H a c0 c1 c2 q0 u1 k1) (D14 9 rfl) pd4 [(.ref a), (.int 0), (.int 3)] [] [1] rl0 ?_
  rintro T5 _ _ _ ⟨b6, rfl, rfl, rfl⟩ hro5 S5
  replace S5 := S5.nc (L' := [(t, O0 Z (.int 0) .null), (a, Ary Z .char [(.int c0), (.int c1), (.int c2)]), (b6, Ary Z .byte [(.int (blo c0)), (.int (bhi c0)), (.int (blo c1)), (.int (bhi c1)), (.int (blo c2)), (.int (bhi c2))])]) rfl
  refine C.astore S5 (D14 10 rfl) 41 rfl rfl #[vr t, vr a, vi 0, vi 3, .val .null, vr b6] rfl <| C.a1 S5 (D14 11 rfl) rfl rfl <| C.a2 S5 (D14 12 rfl) rfl rfl <| C.i1 S5 (D14 13 rfl) rfl <| C.xs S5 (W H 344 rfl) (W H 345 rfl) (W H 320 rfl) (W H 346 rfl) (coderU3 H b6 c0 c1 c2) (D14 14 rfl) pd6 [(.ref b6), (.int 3)] [(.ref t)] [] (rlN (S5.at 2 rfl) rl0) ?_
  rintro T7 _ _ _ ⟨rfl, rfl, rfl⟩ hro7 S7
  replace S7 := S7.n0
  refine C.putfieldN S7 (W H 29 rfl) Via.refl (D14 15 rfl) 0 rfl 0 rfl (Or.inr ⟨(W H 25 rfl), rfl, rfl⟩) (W H 10 rfl) (ty := .byte) (by decide) rfl rfl 51 rfl fun T8 S8 => C.a1 S8 (D14 16 rfl) rfl rfl <| C.a2 S8 (D14 17 rfl) rfl rfl <| C.putfield S8 (host := "") (Or.inl (W H 28 rfl)) Via.refl (D14 18 rfl) 0 rfl 1 rfl (Or.inr ⟨(W H 24 rfl), rfl, rfl⟩) (W H 10 rfl) (ty := (.array .byte)) (by decide) rfl rfl 57 rfl fun T9 S9 => ?_
  exact C.rV S9 (D14 19 rfl) [0, 1, 2] ⟨b6, rfl, rfl, rfl⟩
theorem si1_3_1 (H : Hy a0 Z cst dce nona sfv) (t a : Addr) (c0 c1 c2 : Int32) (q0 : ¬ c0 < 0 ∧ ¬ 255 < c0) (u1 : 255 < c1) (k1 : Chr c1) :
    Con lch Z consts_1 Y15 jdk_42_method_3_code 2 none (rm 5 2 9 74) #[(.ref t), (.ref a)] [(t, O0 Z (.int 0) .null), (a, Ary Z .char [(.int c0), (.int c1), (.int c2)])] []
      (fun rv L1 M1 => ∃ (b : Addr), rv = none ∧ L1 = [(t, O0 Z (.int 1) (.ref b)), (a, Ary Z .char [(.int c0), (.int c1), (.int c2)]), (b, Ary Z .byte [(.int (blo c0)), (.int (bhi c0)), (.int (blo c1)), (.int (bhi c1)), (.int (blo c2)), (.int (bhi c2))])] ∧ M1 = []) := by
  refine Con.ob #[vr t, vr a] (plainFor_of_name pn0) ?_
  intro p e s m below meth c T0 h0 C S0
  refine C.a1 S0 (D15 0 rfl) rfl rfl <| C.a1 S0 (D15 1 rfl) rfl rfl <| C.k1 S0 (D15 2 rfl) 0 rfl <| C.a1 S0 (D15 3 rfl) rfl rfl <| C.arraylength S0 (S0.at 1 rfl) (D15 4 rfl) 5 rfl (3 : Int32) rfl <| C.aconstNull S0 (D15 5 rfl) 6 rfl <| C.xi (a := t) S0 (W H 15 rfl) (W H 16 rfl) (W H 11 rfl) (W H 18 rfl) (si5_3_1 H t a c0 c1 c2 q0 u1 k1) (D15 6 rfl) pd7 [(.ref a), (.int 0), (.int 3), .null] [] [0, 1] rl0 ?_
  rintro T1 _ _ _ ⟨b2, rfl, rfl, rfl⟩ hro1 S1
  replace S1 := S1.nc (L' := [(t, O0 Z (.int 1) (.ref b2)), (a, Ary Z .char [(.int c0), (.int c1), (.int c2)]), (b2, Ary Z .byte [(.int (blo c0)), (.int (bhi c0)), (.int (blo c1)), (.int (bhi c1)), (.int (blo c2)), (.int (bhi c2))])]) rfl
  exact C.rV S1 (D15 7 rfl) [0, 1, 2] ⟨b2, rfl, rfl, rfl⟩
theorem co5_3_2 (H : Hy a0 Z cst dce nona sfv) (a b : Addr) (c0 c1 c2 : Int32) (q0 : ¬ c0 < 0 ∧ ¬ 255 < c0) (q1 : ¬ c1 < 0 ∧ ¬ 255 < c1) (u2 : 255 < c2) :
    Con lch Z consts_1 Y12 jdk_52_method_21_code 7 (some .int) (rm 0 0 0 0) #[(.ref a), (.int 0), (.ref b), (.int 0), (.int 3)] [(a, Ary Z .char [(.int c0), (.int c1), (.int c2)]), (b, Ary Z .byte [(.int 0), (.int 0), (.int 0)])] []
      (fun rv L1 M1 => rv = some (.int 2) ∧ L1 = [(a, Ary Z .char [(.int c0), (.int c1), (.int c2)]), (b, Ary Z .byte [(.int (c0.toInt8.toInt32)), (.int (c1.toInt8.toInt32)), (.int 0)])] ∧ M1 = []) := by
  refine Con.ob #[vr a, vi 0, vr b, vi 0, vi 3, us, us] (plainFor_of_name pn3) ?_
  intro p e s m below meth c T0 h0 C S0
  refine C.k1 S0 (D12 0 rfl) 0 rfl <| C.istore S0 (D12 1 rfl) 3 rfl #[vr a, vi 0, vr b, vi 0, vi 3, vi 0, us] rfl <| C.i2 S0 (D12 2 rfl) rfl <| C.i2 S0 (D12 3 rfl) rfl <| C.icmp_geF S0 (D12 4 rfl) 10 rfl (by decide) <| C.a1 S0 (D12 5 rfl) rfl rfl <| C.i1 S0 (D12 6 rfl) rfl <| C.caload S0 (S0.at 0 rfl) (D12 7 rfl) 13 rfl (by decide) 0 rfl rfl <| C.istore S0 (D12 8 rfl) 15 rfl #[vr a, vi 0, vr b, vi 0, vi 3, vi 0, vi c0] rfl <| C.i2 S0 (D12 9 rfl) rfl <| C.k3 S0 (D12 10 rfl) 255 rfl ?_
  refine C.icmp_le S0 (D12 11 rfl) 26 23 (by decide) (by decide) rfl (fun hc2 => ?_) fun hc2 => absurd hc2 q0.2
  refine C.a1 S0 (D12 14 rfl) rfl rfl <| C.i1 S0 (D12 15 rfl) rfl <| C.i2 S0 (D12 16 rfl) rfl <| C.i2b S0 (D12 17 rfl) 31 rfl (c0.toInt8.toInt32) rfl <| C.bastore S0 1 rfl (D12 18 rfl) 32 rfl (by decide) 0 rfl (leD rfl) (c0.toInt8.toInt32) (by simp [nar]) fun T3 S3 => C.iinc S3 (D12 19 rfl) 35 rfl rfl 1 1 rfl (by decide) #[vr a, vi 1, vr b, vi 0, vi 3, vi 0, vi c0] rfl <| C.iinc S3 (D12 20 rfl) 38 rfl rfl 1 1 rfl (by decide) #[vr a, vi 1, vr b, vi 1, vi 3, vi 0, vi c0] rfl <| C.iinc S3 (D12 21 rfl) 41 rfl rfl 1 1 rfl (by decide) #[vr a, vi 1, vr b, vi 1, vi 3, vi 1, vi c0] rfl <| C.g S3 (D12 22 rfl) 3 rfl <| C.i2 S3 (D12 2 rfl) rfl <| C.i2 S3 (D12 3 rfl) rfl <| C.icmp_geF S3 (D12 4 rfl) 10 rfl (by decide) <| C.a1 S3 (D12 5 rfl) rfl rfl <| C.i1 S3 (D12 6 rfl) rfl <| C.caload S3 (S3.at 0 rfl) (D12 7 rfl) 13 rfl (by decide) 1 rfl rfl <| C.istore S3 (D12 8 rfl) 15 rfl #[vr a, vi 1, vr b, vi 1, vi 3, vi 1, vi c1] rfl ?_
  refine C.i2 S3 (D12 9 rfl) rfl <| C.k3 S3 (D12 10 rfl) 255 rfl ?_
  refine C.icmp_le S3 (D12 11 rfl) 26 23 (by decide) (by decide) rfl (fun hc5 => ?_) fun hc5 => absurd hc5 q1.2
  refine C.a1 S3 (D12 14 rfl) rfl rfl <| C.i1 S3 (D12 15 rfl) rfl <| C.i2 S3 (D12 16 rfl) rfl <| C.i2b S3 (D12 17 rfl) 31 rfl (c1.toInt8.toInt32) rfl <| C.bastore S3 1 rfl (D12 18 rfl) 32 rfl (by decide) 1 rfl (leD rfl) (c1.toInt8.toInt32) (by simp [nar]) fun T6 S6 => C.iinc S6 (D12 19 rfl) 35 rfl rfl 2 1 rfl (by decide) #[vr a, vi 2, vr b, vi 1, vi 3, vi 1, vi c1] rfl <| C.iinc S6 (D12 20 rfl) 38 rfl rfl 2 1 rfl (by decide) #[vr a, vi 2, vr b, vi 2, vi 3, vi 1, vi c1] rfl <| C.iinc S6 (D12 21 rfl) 41 rfl rfl 2 1 rfl (by decide) #[vr a, vi 2, vr b, vi 2, vi 3, vi 2, vi c1] rfl <| C.g S6 (D12 22 rfl) 3 rfl <| C.i2 S6 (D12 2 rfl) rfl <| C.i2 S6 (D12 3 rfl) rfl <| C.icmp_geF S6 (D12 4 rfl) 10 rfl (by decide) <| C.a1 S6 (D12 5 rfl) rfl rfl <| C.i1 S6 (D12 6 rfl) rfl <| C.caload S6 (S6.at 0 rfl) (D12 7 rfl) 13 rfl (by decide) 2 rfl rfl <| C.istore S6 (D12 8 rfl) 15 rfl #[vr a, vi 2, vr b, vi 2, vi 3, vi 2, vi c2] rfl ?_
  refine C.i2 S6 (D12 9 rfl) rfl <| C.k3 S6 (D12 10 rfl) 255 rfl <| C.icmp_le S6 (D12 11 rfl) 26 23 (by decide) (by decide) rfl (fun hc8 => absurd u2 hc8) fun hc8 => C.i2 S6 (D12 12 rfl) rfl ?_
  exact C.rI S6 (D12 13 rfl) [0, 1] ⟨rfl, rfl, rfl⟩
theorem co3_3_2 (H : Hy a0 Z cst dce nona sfv) (a : Addr) (c0 c1 c2 : Int32) (q0 : ¬ c0 < 0 ∧ ¬ 255 < c0) (q1 : ¬ c1 < 0 ∧ ¬ 255 < c1) (u2 : 255 < c2) (k2 : Chr c2) :
    Con lch Z consts_1 Y13 jdk_52_method_16_code 6 (Option.some (Jvm.ClassFile.FieldType.array Jvm.ClassFile.FieldType.byte)) (rm 3 2 9 40) #[(.ref a), (.int 0), (.int 3)] [(a, Ary Z .char [(.int c0), (.int c1), (.int c2)])] []
      (fun rv L1 M1 => ∃ (b : Addr), rv = some (.ref b) ∧ L1 = [(a, Ary Z .char [(.int c0), (.int c1), (.int c2)]), (b, Ary Z .byte [(.int (blo c0)), (.int (bhi c0)), (.int (blo c1)), (.int (bhi c1)), (.int (blo c2)), (.int (bhi c2))])] ∧ M1 = []) := by
  refine Con.ob #[vr a, vi 0, vi 3, us, us, us] (plainFor_of_name pn3) ?_
  intro p e s m below meth c T0 h0 C S0
  refine C.i1 S0 (D13 0 rfl) rfl <| C.newarray (aty := .byte) S0 (W H 23 rfl) (D13 1 rfl) 3 rfl (by decide) 3 rfl 3 (leD rfl) (by decide) (leD rfl) (leD rfl) fun T1 b1 S1 => C.astoreN S1 (D13 2 rfl) 4 rfl rfl #[vr a, vi 0, vi 3, vr b1, us, us] rfl <| C.a1 S1 (D13 3 rfl) rfl rfl <| C.i1 S1 (D13 4 rfl) rfl <| C.a1 S1 (D13 5 rfl) rfl rfl <| C.k1 S1 (D13 6 rfl) 0 rfl <| C.i1 S1 (D13 7 rfl) rfl <| C.xs S1 (W H 322 rfl) (W H 323 rfl) (W H 320 rfl) (W H 324 rfl) (co5_3_2 H a b1 c0 c1 c2 q0 q1 u2) (D13 8 rfl) pd3 [(.ref a), (.int 0), (.ref b1), (.int 0), (.int 3)] [] [0, 1] rl0 ?_
  rintro T2 _ _ _ ⟨rfl, rfl, rfl⟩ hro2 S2
  replace S2 := S2.nc (L' := [(a, Ary Z .char [(.int c0), (.int c1), (.int c2)]), (b1, Ary Z .byte [(.int (c0.toInt8.toInt32)), (.int (c1.toInt8.toInt32)), (.int 0)])]) rfl
  refine C.istore S2 (D13 9 rfl) 14 rfl #[vr a, vi 0, vi 3, vr b1, vi 2, us] rfl <| C.i2 S2 (D13 10 rfl) rfl <| C.i1 S2 (D13 11 rfl) rfl <| C.icmp_eqF S2 (D13 12 rfl) 20 rfl (by decide) <| C.a1 S2 (D13 13 rfl) rfl rfl <| C.i1 S2 (D13 14 rfl) rfl <| C.i1 S2 (D13 15 rfl) rfl <| C.xs S2 (W H 325 rfl) (W H 326 rfl) (W H 320 rfl) (W H 327 rfl) (toB3 H a c0 c1 c2) (D13 16 rfl) pd4 [(.ref a), (.int 0), (.int 3)] [] [0] rl0 ?_
  rintro T4 _ _ _ ⟨b5, rfl, rfl, rfl⟩ hro4 S4
  replace S4 := S4.nc (L' := [(a, Ary Z .char [(.int c0), (.int c1), (.int c2)]), (b1, Ary Z .byte [(.int (c0.toInt8.toInt32)), (.int (c1.toInt8.toInt32)), (.int 0)]), (b5, Ary Z .byte [(.int (blo c0)), (.int (bhi c0)), (.int (blo c1)), (.int (bhi c1)), (.int (blo c2)), (.int (bhi c2))])]) rfl
  refine C.astore S4 (D13 17 rfl) 28 rfl rfl #[vr a, vi 0, vi 3, vr b1, vi 2, vr b5] rfl <| C.a2 S4 (D13 18 rfl) rfl rfl <| C.i2 S4 (D13 19 rfl) rfl <| C.xs S4 (W H 341 rfl) (W H 342 rfl) (W H 320 rfl) (W H 343 rfl) (getG H b5 ([c0, c1, c2] : List Int32) 2 (leD rfl) (leD rfl) k2) (D13 20 rfl) pd5 [(.ref b5), (.int 2)] [] [] (rlN (S4.at 2 rfl) rl0) ?_
  rintro T6 _ _ _ ⟨rfl, rfl, rfl⟩ hro6 S6
  replace S6 := S6.n0
  refine C.k3 S6 (D13 21 rfl) 255 rfl ?_
  refine C.icmp_gt S6 (D13 22 rfl) 54 41 (by decide) (by decide) rfl (fun hc7 => ?_) fun hc7 => absurd u2 hc7
  refine C.a2 S6 (D13 23 rfl) rfl rfl ?_
  exact C.rA S6 rfl rfl (D13 24 rfl) [0, 2] ⟨b5, rfl, rfl, rfl⟩
theorem si5_3_2 (H : Hy a0 Z cst dce nona sfv) (t a : Addr) (c0 c1 c2 : Int32) (q0 : ¬ c0 < 0 ∧ ¬ 255 < c0) (q1 : ¬ c1 < 0 ∧ ¬ 255 < c1) (u2 : 255 < c2) (k2 : Chr c2) :
    Con lch Z consts_1 Y14 jdk_42_method_149_code 6 none (rm 4 2 9 57) #[(.ref t), (.ref a), (.int 0), (.int 3), .null] [(t, O0 Z (.int 0) .null), (a, Ary Z .char [(.int c0), (.int c1), (.int c2)])] []
      (fun rv L1 M1 => ∃ (b : Addr), rv = none ∧ L1 = [(t, O0 Z (.int 1) (.ref b)), (a, Ary Z .char [(.int c0), (.int c1), (.int c2)]), (b, Ary Z .byte [(.int (blo c0)), (.int (bhi c0)), (.int (blo c1)), (.int (bhi c1)), (.int (blo c2)), (.int (bhi c2))])] ∧ M1 = []) := by
  refine Con.ob #[vr t, vr a, vi 0, vi 3, .val .null, us] (plainFor_of_name pn0) ?_
  intro p e s m below meth c T0 h0 C S0
  refine C.a1 S0 (D14 0 rfl) rfl rfl <| C.objInit S0 (W H 19 rfl) (W H 20 rfl) (W H 21 rfl) (D14 1 rfl) 4 rfl rfl (leD rfl) (leD rfl) fun T1 S1 => C.i1 S1 (D14 2 rfl) rfl <| C.if_neT S1 (D14 3 rfl) 27 rfl (by decide) <| C.getstatic S1 (host := "") (Or.inl (W H 263 rfl)) Via.refl (D14 4 rfl) H.2.1 30 rfl fun T3 S3 => C.if_eq S3 (D14 5 rfl) 58 33 (by decide) (by decide) rfl (fun hc4 => absurd hc4 H.2.2.1) fun hc4 => C.a1 S3 (D14 6 rfl) rfl rfl <| C.i1 S3 (D14 7 rfl) rfl <| C.i1 S3 (D14 8 rfl) rfl <| C.xs S3 (W H 318 rfl) (W H 319 rfl) (W H 320 rfl) (W H 321 rfl) (co3_3_2 H a c0 c1 c2 q0 q1 u2 k2) (D14 9 rfl) pd4 [(.ref a), (.int 0), (.int 3)] [] [1] rl0 ?_
  rintro T5 _ _ _ ⟨b6, rfl, rfl, rfl⟩ hro5 S5
  replace S5 := S5.nc (L' := [(t, O0 Z (.int 0) .null), (a, Ary Z .char [(.int c0), (.int c1), (.int c2)]), (b6, Ary Z .byte [(.int (blo c0)), (.int (bhi c0)), (.int (blo c1)), (.int (bhi c1)), (.int (blo c2)), (.int (bhi c2))])]) rfl
  refine C.astore S5 (D14 10 rfl) 41 rfl rfl #[vr t, vr a, vi 0, vi 3, .val .null, vr b6] rfl <| C.a1 S5 (D14 11 rfl) rfl rfl <| C.a2 S5 (D14 12 rfl) rfl rfl <| C.i1 S5 (D14 13 rfl) rfl <| C.xs S5 (W H 344 rfl) (W H 345 rfl) (W H 320 rfl) (W H 346 rfl) (coderU3 H b6 c0 c1 c2) (D14 14 rfl) pd6 [(.ref b6), (.int 3)] [(.ref t)] [] (rlN (S5.at 2 rfl) rl0) ?_
  rintro T7 _ _ _ ⟨rfl, rfl, rfl⟩ hro7 S7
  replace S7 := S7.n0
  refine C.putfieldN S7 (W H 29 rfl) Via.refl (D14 15 rfl) 0 rfl 0 rfl (Or.inr ⟨(W H 25 rfl), rfl, rfl⟩) (W H 10 rfl) (ty := .byte) (by decide) rfl rfl 51 rfl fun T8 S8 => C.a1 S8 (D14 16 rfl) rfl rfl <| C.a2 S8 (D14 17 rfl) rfl rfl <| C.putfield S8 (host := "") (Or.inl (W H 28 rfl)) Via.refl (D14 18 rfl) 0 rfl 1 rfl (Or.inr ⟨(W H 24 rfl), rfl, rfl⟩) (W H 10 rfl) (ty := (.array .byte)) (by decide) rfl rfl 57 rfl fun T9 S9 => ?_
  exact C.rV S9 (D14 19 rfl) [0, 1, 2] ⟨b6, rfl, rfl, rfl⟩
theorem si1_3_2 (H : Hy a0 Z cst dce nona sfv) (t a : Addr) (c0 c1 c2 : Int32) (q0 : ¬ c0 < 0 ∧ ¬ 255 < c0) (q1 : ¬ c1 < 0 ∧ ¬ 255 < c1) (u2 : 255 < c2) (k2 : Chr c2) :
    Con lch Z consts_1 Y15 jdk_42_method_3_code 2 none (rm 5 2 9 74) #[(.ref t), (.ref a)] [(t, O0 Z (.int 0) .null), (a, Ary Z .char [(.int c0), (.int c1), (.int c2)])] []
      (fun rv L1 M1 => ∃ (b : Addr), rv = none ∧ L1 = [(t, O0 Z (.int 1) (.ref b)), (a, Ary Z .char [(.int c0), (.int c1), (.int c2)]), (b, Ary Z .byte [(.int (blo c0)), (.int (bhi c0)), (.int (blo c1)), (.int (bhi c1)), (.int (blo c2)), (.int (bhi c2))])] ∧ M1 = []) := by
  refine Con.ob #[vr t, vr a] (plainFor_of_name pn0) ?_
  intro p e s m below meth c T0 h0 C S0
  refine C.a1 S0 (D15 0 rfl) rfl rfl <| C.a1 S0 (D15 1 rfl) rfl rfl <| C.k1 S0 (D15 2 rfl) 0 rfl <| C.a1 S0 (D15 3 rfl) rfl rfl <| C.arraylength S0 (S0.at 1 rfl) (D15 4 rfl) 5 rfl (3 : Int32) rfl <| C.aconstNull S0 (D15 5 rfl) 6 rfl <| C.xi (a := t) S0 (W H 15 rfl) (W H 16 rfl) (W H 11 rfl) (W H 18 rfl) (si5_3_2 H t a c0 c1 c2 q0 q1 u2 k2) (D15 6 rfl) pd7 [(.ref a), (.int 0), (.int 3), .null] [] [0, 1] rl0 ?_
  rintro T1 _ _ _ ⟨b2, rfl, rfl, rfl⟩ hro1 S1
  replace S1 := S1.nc (L' := [(t, O0 Z (.int 1) (.ref b2)), (a, Ary Z .char [(.int c0), (.int c1), (.int c2)]), (b2, Ary Z .byte [(.int (blo c0)), (.int (bhi c0)), (.int (blo c1)), (.int (bhi c1)), (.int (blo c2)), (.int (bhi c2))])]) rfl
  exact C.rV S1 (D15 7 rfl) [0, 1, 2] ⟨b2, rfl, rfl, rfl⟩
def surB (c : Int32) : Int32 := if c < 55296 then 0 else if c < 57344 then 1 else 0
def ccF (c : Int32) : Int32 := if c < 65536 then 1 else 2
def toCP (a b : Int32) : Int32 := ((a <<< ((10 : Int32) &&& 31)) + b) + -56613888
def cpAt (cs : List Int32) (ix : Nat) : Int32 :=
  if hiB (cs.getD ix 0) = 0 then cs.getD ix 0 else if ix + 1 < cs.length then (if loB (cs.getD (ix + 1) 0) = 0 then cs.getD ix 0 else toCP (cs.getD ix 0) (cs.getD (ix + 1) 0)) else cs.getD ix 0
def Cpt (cp : Int32) : Prop := ¬ cp < 0 ∧ cp < 1114112
theorem toI_lt {a b : Int32} : a < b ↔ a.toInt < b.toInt := Int32.lt_iff_toInt_lt
theorem lat_back {c : Int32} (h : ¬ c < 0 ∧ ¬ 255 < c) : (c.toInt8.toInt32 &&& 255) = c := by
  obtain ⟨h1, h2⟩ := h
  rw [Int32.lt_iff_toInt_lt, show (0 : Int32).toInt = 0 from rfl] at h1
  rw [Int32.lt_iff_toInt_lt, show (255 : Int32).toInt = 255 from rfl] at h2
  have a1 : (blo c).toInt % 256 = c.toInt % 256 := by
    show (c.toInt8.toInt32).toInt % 256 = _
    rw [Int8.toInt_toInt32, Int32.toInt_toInt8]; simp [Int.bmod_def]; split <;> omega
  have x1 := and255 (blo c)
  rw [← Int32.toInt_inj]
  show (blo c &&& 255).toInt = _
  omega
theorem atom_back (cp : Int32) : (-1 : Int32) - ((-1 : Int32) - cp) = cp := by
  rw [← Int32.toInt_inj]
  have a := c_isub (-1) cp
  have b := c_isub (-1) ((-1 : Int32) - cp)
  rw [show (-1 : Int32).toInt = -1 from rfl] at a b
  have r1 := Int32.toInt_lt cp; have r2 := Int32.le_toInt cp
  have r3 := Int32.toInt_lt ((-1 : Int32) - ((-1 : Int32) - cp)); have r4 := Int32.le_toInt ((-1 : Int32) - ((-1 : Int32) - cp))
  omega
theorem atom_int {cp : Int32} (h : Cpt cp) : ((-1 : Int32) - cp).toInt = -1 - cp.toInt := by
  obtain ⟨h1, h2⟩ := h
  rw [toI_lt] at h1 h2
  rw [show (0 : Int32).toInt = 0 from rfl] at h1
  rw [show (1114112 : Int32).toInt = 1114112 from rfl] at h2
  have a := c_isub (-1) cp
  rw [show (-1 : Int32).toInt = -1 from rfl] at a
  have r3 := Int32.toInt_lt ((-1 : Int32) - cp); have r4 := Int32.le_toInt ((-1 : Int32) - cp)
  omega
theorem atom_neg {cp : Int32} (h : Cpt cp) : ((-1 : Int32) - cp) < 0 := by
  have e := atom_int h
  obtain ⟨h1, h2⟩ := h
  rw [toI_lt] at h1 ⊢
  rw [show (0 : Int32).toInt = 0 from rfl] at h1 ⊢
  omega
theorem atom_ne {cp : Int32} (h : Cpt cp) : ¬ ((-1 : Int32) - cp) = -2147483648 := by
  intro q
  have e := atom_int h
  obtain ⟨h1, h2⟩ := h
  rw [toI_lt] at h2
  rw [show (1114112 : Int32).toInt = 1114112 from rfl] at h2
  rw [q, show (-2147483648 : Int32).toInt = -2147483648 from rfl] at e
  omega
theorem atom_b2 {ax cp : Int32} (h : ax = (-1 : Int32) - cp) : (-1 : Int32) - ax = cp := by rw [h]; exact atom_back cp
theorem atom_n2 {ax cp : Int32} (hc : Cpt cp) (h : ax = (-1 : Int32) - cp) : ax < 0 := by rw [h]; exact atom_neg hc
theorem kd_no {kd n : Int32} (hk : kd = 6 ∨ kd = 7 ∨ kd = 8) (h : n ≠ 6 ∧ n ≠ 7 ∧ n ≠ 8) : ¬ kd = n := by
  rcases hk with q | q | q <;> rw [q] <;> intro e
  · exact h.1 e.symm
  · exact h.2.1 e.symm
  · exact h.2.2 e.symm
theorem kd_nar {kd : Int32} (hk : kd = 6 ∨ kd = 7 ∨ kd = 8) : nar .byte kd = kd := by rcases hk with q | q | q <;> rw [q] <;> decide
theorem pn4 : plainName "jdk/internal/util/Preconditions" = true := by first | (simp [plainName, overriddenIn]; done) | decide +kernel
theorem pciR (H : Hy a0 Z cst dce nona sfv) (i9 n9 : Int32) (fa : Addr) (hix0 : ¬ i9 < 0) (hix1 : i9 < n9) :
    Con lch Z consts_1 Y16 jdk_41_method_11_code 3 (some .int) (rm 0 0 0 0) #[(.int i9), (.int n9), (.ref fa)] [] []
      (fun rv L1 M1 => rv = some (.int i9) ∧ L1 = [] ∧ M1 = []) := by
  refine Con.ob #[vi i9, vi n9, vr fa] (plainFor_of_name pn4) ?_
  intro p e s m below meth c T0 h0 C S0
  refine C.i1 S0 (D16 0 rfl) rfl <| C.if_lt S0 (D16 1 rfl) 9 4 (by decide) (by decide) rfl (fun hc1 => absurd hc1 hix0) fun hc1 => C.i1 S0 (D16 2 rfl) rfl <| C.i1 S0 (D16 3 rfl) rfl ?_
  refine C.icmp_lt S0 (D16 4 rfl) 16 9 (by decide) (by decide) rfl (fun hc2 => ?_) fun hc2 => absurd hix1 hc2
  refine C.i1 S0 (D16 5 rfl) rfl ?_
  exact C.rI S0 (D16 6 rfl) [] ⟨rfl, rfl, rfl⟩
theorem pciN (H : Hy a0 Z cst dce nona sfv) (i9 n9 : Int32) (hix0 : ¬ i9 < 0) (hix1 : i9 < n9) :
    Con lch Z consts_1 Y16 jdk_41_method_11_code 3 (some .int) (rm 0 0 0 0) #[(.int i9), (.int n9), .null] [] []
      (fun rv L1 M1 => rv = some (.int i9) ∧ L1 = [] ∧ M1 = []) := by
  refine Con.ob #[vi i9, vi n9, .val .null] (plainFor_of_name pn4) ?_
  intro p e s m below meth c T0 h0 C S0
  refine C.i1 S0 (D16 0 rfl) rfl <| C.if_lt S0 (D16 1 rfl) 9 4 (by decide) (by decide) rfl (fun hc1 => absurd hc1 hix0) fun hc1 => C.i1 S0 (D16 2 rfl) rfl <| C.i1 S0 (D16 3 rfl) rfl ?_
  refine C.icmp_lt S0 (D16 4 rfl) 16 9 (by decide) (by decide) rfl (fun hc2 => ?_) fun hc2 => absurd hix1 hc2
  refine C.i1 S0 (D16 5 rfl) rfl ?_
  exact C.rI S0 (D16 6 rfl) [] ⟨rfl, rfl, rfl⟩
theorem pci (H : Hy a0 Z cst dce nona sfv) (i9 n9 : Int32) (fmt : Value) (hix0 : ¬ i9 < 0) (hix1 : i9 < n9) (hf : fmt = .null ∨ ∃ fa, fmt = .ref fa) :
    Con lch Z consts_1 Y16 jdk_41_method_11_code 3 (some .int) (rm 0 0 0 0) #[(.int i9), (.int n9), fmt] [] []
      (fun rv L1 M1 => rv = some (.int i9) ∧ L1 = [] ∧ M1 = []) := by
  rcases hf with rfl | ⟨fa, rfl⟩
  · exact pciN H i9 n9 hix0 hix1
  · exact pciR H i9 n9 fa hix0 hix1
theorem pd8 : parseMethodDescriptor "(IILjava/util/function/BiFunction;)I" = some ⟨[.int, .int, (.object "java/util/function/BiFunction")], some .int⟩ := by decide +kernel
theorem sci (H : Hy a0 Z cst dce nona sfv) (i9 n9 : Int32) (hix0 : ¬ i9 < 0) (hix1 : i9 < n9) :
    Con lch Z consts_1 Y17 jdk_42_method_155_code 2 none (rm 1 0 0 14) #[(.int i9), (.int n9)] [] []
      (fun rv L1 M1 => rv = none ∧ L1 = [] ∧ M1 = []) := by
  refine Con.ob #[vi i9, vi n9] (plainFor_of_name pn0) ?_
  intro p e s m below meth c T0 h0 C S0
  refine C.i1 S0 (D17 0 rfl) rfl <| C.i1 S0 (D17 1 rfl) rfl <| C.getstatic S0 (host := "") (Or.inl (W H 360 rfl)) Via.refl (D17 2 rfl) H.2.2.2.hSF 5 rfl fun T1 S1 => C.xs S1 (W H 362 rfl) (W H 363 rfl) (W H 361 rfl) (W H 364 rfl) (pci H i9 n9 sfv hix0 hix1 H.2.2.2.cSF) (D17 3 rfl) pd8 [(.int i9), (.int n9), sfv] [] [] rl0 ?_
  rintro T2 _ _ _ ⟨rfl, rfl, rfl⟩ hro2 S2
  replace S2 := S2.n0
  refine C.pop S2 (D17 4 rfl) 9 rfl rfl ?_
  exact C.rV S2 (D17 5 rfl) [] ⟨rfl, rfl, rfl⟩
theorem isSur (H : Hy a0 Z cst dce nona sfv) (c9 : Int32) :
    Con lch Z consts_1 Y18 jdk_89_method_16_code 1 (some .boolean) (rm 0 0 0 0) #[(.int c9)] [] []
      (fun rv L1 M1 => rv = some (.int (surB c9)) ∧ L1 = [] ∧ M1 = []) := by
  refine Con.ob #[vi c9] (plainFor_of_name pn1) ?_
  intro p e s m below meth c T0 h0 C S0
  refine C.i1 S0 (D18 0 rfl) rfl <| C.ldcInt S0 (W H 375 rfl) (D18 1 rfl) 3 rfl <| C.icmp_lt S0 (D18 2 rfl) 16 6 (by decide) (by decide) rfl (fun hc1 => ?_) fun hc1 => ?_
  · refine C.k1 S0 (D18 3 rfl) 0 rfl ?_
    exact C.rN S0 (D18 4 rfl) 0 (by decide) [] ⟨by rw [surB, if_pos hc1], rfl, rfl⟩
  · refine C.i1 S0 (D18 5 rfl) rfl <| C.ldcInt S0 (W H 427 rfl) (D18 6 rfl) 9 rfl <| C.icmp_ge S0 (D18 7 rfl) 16 12 (by decide) (by decide) rfl (fun hc2 => ?_) fun hc2 => ?_
    · refine C.k1 S0 (D18 3 rfl) 0 rfl ?_
      exact C.rN S0 (D18 4 rfl) 0 (by decide) [] ⟨by rw [surB, if_neg hc1, if_neg hc2], rfl, rfl⟩
    · refine C.k1 S0 (D18 8 rfl) 1 rfl <| C.g S0 (D18 9 rfl) 17 rfl ?_
      exact C.rN S0 (D18 4 rfl) 1 (by decide) [] ⟨by rw [surB, if_neg hc1, if_pos hc2], rfl, rfl⟩
theorem chCnt (H : Hy a0 Z cst dce nona sfv) (c9 : Int32) :
    Con lch Z consts_1 Y19 jdk_89_method_18_code 1 (some .int) (rm 0 0 0 0) #[(.int c9)] [] []
      (fun rv L1 M1 => rv = some (.int (ccF c9)) ∧ L1 = [] ∧ M1 = []) := by
  refine Con.ob #[vi c9] (plainFor_of_name pn1) ?_
  intro p e s m below meth c T0 h0 C S0
  refine C.i1 S0 (D19 0 rfl) rfl <| C.ldcInt S0 (W H 445 rfl) (D19 1 rfl) 3 rfl <| C.icmp_lt S0 (D19 2 rfl) 10 6 (by decide) (by decide) rfl (fun hc1 => ?_) fun hc1 => ?_
  · refine C.k1 S0 (D19 3 rfl) 1 rfl ?_
    exact C.rI S0 (D19 4 rfl) [] ⟨by rw [ccF, if_pos hc1], rfl, rfl⟩
  · refine C.k1 S0 (D19 5 rfl) 2 rfl <| C.g S0 (D19 6 rfl) 11 rfl ?_
    exact C.rI S0 (D19 4 rfl) [] ⟨by rw [ccF, if_neg hc1], rfl, rfl⟩
theorem toCpC (H : Hy a0 Z cst dce nona sfv) (c8 c9 : Int32) :
    Con lch Z consts_1 Y20 jdk_89_method_19_code 2 (some .int) (rm 0 0 0 0) #[(.int c8), (.int c9)] [] []
      (fun rv L1 M1 => rv = some (.int (toCP c8 c9)) ∧ L1 = [] ∧ M1 = []) := by
  refine Con.ob #[vi c8, vi c9] (plainFor_of_name pn1) ?_
  intro p e s m below meth c T0 h0 C S0
  refine C.i1 S0 (D20 0 rfl) rfl <| C.k2 S0 (D20 1 rfl) 10 rfl <| C.ishl S0 (D20 2 rfl) 4 rfl (c8 <<< ((10 : Int32) &&& 31)) rfl <| C.i1 S0 (D20 3 rfl) rfl <| C.iadd S0 (D20 4 rfl) 6 rfl ((c8 <<< ((10 : Int32) &&& 31)) + c9) rfl <| C.ldcInt S0 (W H 441 rfl) (D20 5 rfl) 8 rfl <| C.iadd S0 (D20 6 rfl) 9 rfl (((c8 <<< ((10 : Int32) &&& 31)) + c9) + (-56613888 : Int32)) rfl ?_
  exact C.rI S0 (D20 7 rfl) [] ⟨rfl, rfl, rfl⟩
theorem lat_at {cs : List Int32} {ix : Nat} (h : ix < cs.length) : nth (encB cs) ix = some (.int (cs.getD ix 0).toInt8.toInt32) := by
  rw [encB, chars, lowB, nth_map, nth_map, nth_get, List.getElem?_eq_getElem h, List.getD_eq_getElem?_getD, List.getElem?_eq_getElem h]; rfl
theorem cp_lat {cs : List Int32} {ix : Nat} (h : ¬ cs.getD ix 0 < 0 ∧ ¬ 255 < cs.getD ix 0) : cpAt cs ix = cs.getD ix 0 := by rw [cpAt, if_pos (lat_hi h)]
theorem cp_a {cs : List Int32} {ix : Nat} (h : hiB (cs.getD ix 0) = 0) : cpAt cs ix = cs.getD ix 0 := by rw [cpAt, if_pos h]
theorem cp_b {cs : List Int32} {ix : Nat} (h : ¬ hiB (cs.getD ix 0) = 0) (h2 : ¬ ix + 1 < cs.length) : cpAt cs ix = cs.getD ix 0 := by rw [cpAt, if_neg h, if_neg h2]
theorem cp_c {cs : List Int32} {ix : Nat} (h : ¬ hiB (cs.getD ix 0) = 0) (h2 : ix + 1 < cs.length) (h3 : loB (cs.getD (ix + 1) 0) = 0) : cpAt cs ix = cs.getD ix 0 := by rw [cpAt, if_neg h, if_pos h2, if_pos h3]
theorem cp_d {cs : List Int32} {ix : Nat} (h : ¬ hiB (cs.getD ix 0) = 0) (h2 : ix + 1 < cs.length) (h3 : ¬ loB (cs.getD (ix + 1) 0) = 0) : cpAt cs ix = toCP (cs.getD ix 0) (cs.getD (ix + 1) 0) := by rw [cpAt, if_neg h, if_pos h2, if_neg h3]
theorem pd9 : parseMethodDescriptor "()B" = some ⟨[], some .byte⟩ := by decide +kernel
theorem lenL (H : Hy a0 Z cst dce nona sfv) (t b : Addr) (cs : List Int32) :
    Con lch Z consts_1 Y21 jdk_42_method_54_code 1 (some .int) (rm 2 0 0 30) #[(.ref t)] [] [(t, O0 Z (.int 0) (.ref b)), (b, Ary Z .byte (encB cs))]
      (fun rv L1 M1 => rv = some (.int (n32 cs.length)) ∧ L1 = [] ∧ M1 = []) := by
  refine Con.ob #[vr t] (plainFor_of_name pn0) ?_
  intro p e s m below meth c T0 h0 C S0
  refine C.a1 S0 (D21 0 rfl) rfl rfl <| C.gf S0 (W H 28 rfl) (D21 1 rfl) (S0.fldM 0 rfl 1 rfl) 4 rfl fun T1 S1 => C.arraylength S1 (S1.atM 1 rfl) (D21 2 rfl) 5 rfl (n32 cs.length) (by rw [encB, chars, List.length_map, lowB, List.length_map]; rfl) <| C.a1 S1 (D21 3 rfl) rfl rfl <| C.xv S1 (S1.exaM 0 rfl) (W H 258 rfl) (W H 259 rfl) (Or.inl ⟨_, (W H 261 rfl)⟩) (W H 261 rfl) (W H 260 rfl) (W H 11 rfl) (W H 262 rfl) (coder0 H t b) (D21 4 rfl) pd9 [] [(.int (n32 cs.length))] [] (rlN (S1.atM 0 rfl) rl0) ?_
  rintro T2 _ _ _ ⟨rfl, rfl, rfl⟩ hro2 S2
  replace S2 := S2.n0
  refine C.ishr S2 (D21 5 rfl) 10 rfl (n32 cs.length) (shr0 _) ?_
  exact C.rI S2 (D21 6 rfl) [] ⟨rfl, rfl, rfl⟩
theorem pd10 : parseMethodDescriptor "(II)V" = some ⟨[.int, .int], none⟩ := by decide +kernel
theorem pn5 : plainName "java/lang/StringLatin1" = true := by first | (simp [plainName, overriddenIn]; done) | decide +kernel
theorem l1caG (H : Hy a0 Z cst dce nona sfv) (b : Addr) (cs : List Int32) (ix : Nat) (hlt : ix < cs.length) (hn3 : cs.length ≤ 3) (hkk : ∀ j, Chr (cs.getD j 0)) (hq : ∀ j, ¬ cs.getD j 0 < 0 ∧ ¬ 255 < cs.getD j 0) :
    Con lch Z consts_1 Y22 jdk_43_method_2_code 2 (some .char) (rm 2 0 0 27) #[(.ref b), (.int (n32 ix))] [] [(b, Ary Z .byte (encB cs))]
      (fun rv L1 M1 => rv = some (.int (cs.getD ix 0)) ∧ L1 = [] ∧ M1 = []) := by
  refine Con.ob #[vr b, vi (n32 ix)] (plainFor_of_name pn5) ?_
  intro p e s m below meth c T0 h0 C S0
  refine C.i1 S0 (D22 0 rfl) rfl <| C.a1 S0 (D22 1 rfl) rfl rfl <| C.arraylength S0 (S0.atM 0 rfl) (D22 2 rfl) 3 rfl (n32 cs.length) (by rw [encB, chars, List.length_map, lowB, List.length_map]; rfl) <| C.xs S0 (W H 432 rfl) (W H 358 rfl) (W H 11 rfl) (W H 359 rfl) (sci H (n32 ix) (n32 cs.length) (n32_nn (by omega)) ((n32_lt (Nat.le_of_lt hlt) hn3).mpr hlt)) (D22 3 rfl) pd10 [(.int (n32 ix)), (.int (n32 cs.length))] [] [] rl0 ?_
  rintro T1 _ _ _ ⟨rfl, rfl, rfl⟩ hro1 S1
  replace S1 := S1.n0
  refine C.a1 S1 (D22 4 rfl) rfl rfl <| C.i1 S1 (D22 5 rfl) rfl <| C.baload S1 (S1.atM 0 rfl) (D22 6 rfl) 9 rfl (n32_nn (by omega)) ix (n32_nat (by omega)) (lat_at hlt) <| C.k3 S1 (D22 7 rfl) 255 rfl <| C.iand S1 (D22 8 rfl) 13 rfl (cs.getD ix 0) (lat_back (hq ix)) <| C.i2c S1 (D22 9 rfl) 14 rfl (cs.getD ix 0) (char_nar (hkk ix)) ?_
  exact C.rN S1 (D22 10 rfl) (cs.getD ix 0) (char_nar (hkk _)) [] ⟨rfl, rfl, rfl⟩
theorem pd11 : parseMethodDescriptor "()Z" = some ⟨[], some .boolean⟩ := by decide +kernel
theorem caL (H : Hy a0 Z cst dce nona sfv) (t b : Addr) (cs : List Int32) (ix : Nat) (hlt : ix < cs.length) (hn3 : cs.length ≤ 3) (hkk : ∀ j, Chr (cs.getD j 0)) (hq : ∀ j, ¬ cs.getD j 0 < 0 ∧ ¬ 255 < cs.getD j 0) :
    Con lch Z consts_1 Y23 jdk_42_method_56_code 2 (some .char) (rm 5 0 0 75) #[(.ref t), (.int (n32 ix))] [] [(t, O0 Z (.int 0) (.ref b)), (b, Ary Z .byte (encB cs))]
      (fun rv L1 M1 => rv = some (.int (cs.getD ix 0)) ∧ L1 = [] ∧ M1 = []) := by
  refine Con.ob #[vr t, vi (n32 ix)] (plainFor_of_name pn0) ?_
  intro p e s m below meth c T0 h0 C S0
  refine C.a1 S0 (D23 0 rfl) rfl rfl <| C.xv S0 (S0.exaM 0 rfl) (W H 352 rfl) (W H 353 rfl) (Or.inl ⟨_, (W H 355 rfl)⟩) (W H 355 rfl) (W H 354 rfl) (W H 11 rfl) (W H 356 rfl) (isLat0 H t b) (D23 1 rfl) pd11 [] [] [] (rlN (S0.atM 0 rfl) rl0) ?_
  rintro T1 _ _ _ ⟨rfl, rfl, rfl⟩ hro1 S1
  replace S1 := S1.n0
  refine C.if_eqF S1 (D23 2 rfl) 7 rfl (by decide) <| C.a1 S1 (D23 3 rfl) rfl rfl <| C.gf S1 (W H 28 rfl) (D23 4 rfl) (S1.fldM 0 rfl 1 rfl) 11 rfl fun T3 S3 => C.i1 S3 (D23 5 rfl) rfl <| C.xs S3 (W H 428 rfl) (W H 429 rfl) (W H 430 rfl) (W H 431 rfl) (l1caG H b cs ix hlt hn3 hkk hq) (D23 6 rfl) pd5 [(.ref b), (.int (n32 ix))] [] [] (rlN (S3.atM 1 rfl) rl0) ?_
  rintro T4 _ _ _ ⟨rfl, rfl, rfl⟩ hro4 S4
  replace S4 := S4.n0
  exact C.rN S4 (D23 7 rfl) (cs.getD ix 0) (char_nar (hkk _)) [] ⟨rfl, rfl, rfl⟩
theorem cpaL (H : Hy a0 Z cst dce nona sfv) (t b : Addr) (cs : List Int32) (ix : Nat) (hlt : ix < cs.length) (hn3 : cs.length ≤ 3) (hkk : ∀ j, Chr (cs.getD j 0)) (hq : ∀ j, ¬ cs.getD j 0 < 0 ∧ ¬ 255 < cs.getD j 0) :
    Con lch Z consts_1 Y24 jdk_42_method_57_code 3 (some .int) (rm 5 0 0 75) #[(.ref t), (.int (n32 ix))] [] [(t, O0 Z (.int 0) (.ref b)), (b, Ary Z .byte (encB cs))]
      (fun rv L1 M1 => rv = some (.int (cpAt cs ix)) ∧ L1 = [] ∧ M1 = []) := by
  refine Con.ob #[vr t, vi (n32 ix), us] (plainFor_of_name pn0) ?_
  intro p e s m below meth c T0 h0 C S0
  refine C.a1 S0 (D24 0 rfl) rfl rfl <| C.xv S0 (S0.exaM 0 rfl) (W H 352 rfl) (W H 353 rfl) (Or.inl ⟨_, (W H 355 rfl)⟩) (W H 355 rfl) (W H 354 rfl) (W H 11 rfl) (W H 356 rfl) (isLat0 H t b) (D24 1 rfl) pd11 [] [] [] (rlN (S0.atM 0 rfl) rl0) ?_
  rintro T1 _ _ _ ⟨rfl, rfl, rfl⟩ hro1 S1
  replace S1 := S1.n0
  refine C.if_eqF S1 (D24 2 rfl) 7 rfl (by decide) <| C.i1 S1 (D24 3 rfl) rfl <| C.a1 S1 (D24 4 rfl) rfl rfl <| C.gf S1 (W H 28 rfl) (D24 5 rfl) (S1.fldM 0 rfl 1 rfl) 12 rfl fun T3 S3 => C.arraylength S3 (S3.atM 1 rfl) (D24 6 rfl) 13 rfl (n32 cs.length) (by rw [encB, chars, List.length_map, lowB, List.length_map]; rfl) <| C.xs S3 (W H 357 rfl) (W H 358 rfl) (W H 11 rfl) (W H 359 rfl) (sci H (n32 ix) (n32 cs.length) (n32_nn (by omega)) ((n32_lt (Nat.le_of_lt hlt) hn3).mpr hlt)) (D24 7 rfl) pd10 [(.int (n32 ix)), (.int (n32 cs.length))] [] [] rl0 ?_
  rintro T4 _ _ _ ⟨rfl, rfl, rfl⟩ hro4 S4
  replace S4 := S4.n0
  refine C.a1 S4 (D24 8 rfl) rfl rfl <| C.gf S4 (W H 28 rfl) (D24 9 rfl) (S4.fldM 0 rfl 1 rfl) 20 rfl fun T5 S5 => C.i1 S5 (D24 10 rfl) rfl <| C.baload S5 (S5.atM 1 rfl) (D24 11 rfl) 22 rfl (n32_nn (by omega)) ix (n32_nat (by omega)) (lat_at hlt) <| C.k3 S5 (D24 12 rfl) 255 rfl <| C.iand S5 (D24 13 rfl) 26 rfl (cs.getD ix 0) (lat_back (hq ix)) ?_
  exact C.rI S5 (D24 14 rfl) [] ⟨by rw [cp_lat (hq ix)], rfl, rfl⟩
theorem u16len (H : Hy a0 Z cst dce nona sfv) (b : Addr) (cs : List Int32) (hn3 : cs.length ≤ 3) :
    Con lch Z consts_1 Y25 jdk_52_method_6_code 1 (some .int) (rm 0 0 0 0) #[(.ref b)] [] [(b, Ary Z .byte (u16 cs))]
      (fun rv L1 M1 => rv = some (.int (n32 cs.length)) ∧ L1 = [] ∧ M1 = []) := by
  refine Con.ob #[vr b] (plainFor_of_name pn3) ?_
  intro p e s m below meth c T0 h0 C S0
  refine C.a1 S0 (D25 0 rfl) rfl rfl <| C.arraylength S0 (S0.atM 0 rfl) (D25 1 rfl) 2 rfl (n32 (2 * cs.length)) (by rw [u16_len]; rfl) <| C.k1 S0 (D25 2 rfl) 1 rfl <| C.ishr S0 (D25 3 rfl) 4 rfl (n32 cs.length) (n32_half hn3) ?_
  exact C.rI S0 (D25 4 rfl) [] ⟨rfl, rfl, rfl⟩
theorem lenU (H : Hy a0 Z cst dce nona sfv) (t b : Addr) (cs : List Int32) (hn3 : cs.length ≤ 3) :
    Con lch Z consts_1 Y21 jdk_42_method_54_code 1 (some .int) (rm 2 0 0 30) #[(.ref t)] [] [(t, O0 Z (.int 1) (.ref b)), (b, Ary Z .byte (u16 cs))]
      (fun rv L1 M1 => rv = some (.int (n32 cs.length)) ∧ L1 = [] ∧ M1 = []) := by
  refine Con.ob #[vr t] (plainFor_of_name pn0) ?_
  intro p e s m below meth c T0 h0 C S0
  refine C.a1 S0 (D21 0 rfl) rfl rfl <| C.gf S0 (W H 28 rfl) (D21 1 rfl) (S0.fldM 0 rfl 1 rfl) 4 rfl fun T1 S1 => C.arraylength S1 (S1.atM 1 rfl) (D21 2 rfl) 5 rfl (n32 (2 * cs.length)) (by rw [u16_len]; rfl) <| C.a1 S1 (D21 3 rfl) rfl rfl <| C.xv S1 (S1.exaM 0 rfl) (W H 258 rfl) (W H 259 rfl) (Or.inl ⟨_, (W H 261 rfl)⟩) (W H 261 rfl) (W H 260 rfl) (W H 11 rfl) (W H 262 rfl) (coder1 H t b) (D21 4 rfl) pd9 [] [(.int (n32 (2 * cs.length)))] [] (rlN (S1.atM 0 rfl) rl0) ?_
  rintro T2 _ _ _ ⟨rfl, rfl, rfl⟩ hro2 S2
  replace S2 := S2.n0
  refine C.ishr S2 (D21 5 rfl) 10 rfl (n32 cs.length) (n32_half hn3) ?_
  exact C.rI S2 (D21 6 rfl) [] ⟨rfl, rfl, rfl⟩
theorem pd12 : parseMethodDescriptor "([B)I" = some ⟨[(.array .byte)], some .int⟩ := by decide +kernel
theorem u16ci (H : Hy a0 Z cst dce nona sfv) (b : Addr) (cs : List Int32) (ix : Nat) (hlt : ix < cs.length) (hn3 : cs.length ≤ 3) :
    Con lch Z consts_1 Y26 jdk_52_method_91_code 2 none (rm 2 0 0 27) #[(.int (n32 ix)), (.ref b)] [] [(b, Ary Z .byte (u16 cs))]
      (fun rv L1 M1 => rv = none ∧ L1 = [] ∧ M1 = []) := by
  refine Con.ob #[vi (n32 ix), vr b] (plainFor_of_name pn3) ?_
  intro p e s m below meth c T0 h0 C S0
  refine C.i1 S0 (D26 0 rfl) rfl <| C.a1 S0 (D26 1 rfl) rfl rfl <| C.xs S0 (W H 395 rfl) (W H 396 rfl) (W H 320 rfl) (W H 397 rfl) (u16len H b cs hn3) (D26 2 rfl) pd12 [(.ref b)] [(.int (n32 ix))] [] (rlN (S0.atM 0 rfl) rl0) ?_
  rintro T1 _ _ _ ⟨rfl, rfl, rfl⟩ hro1 S1
  replace S1 := S1.n0
  refine C.xs S1 (W H 398 rfl) (W H 358 rfl) (W H 11 rfl) (W H 359 rfl) (sci H (n32 ix) (n32 cs.length) (n32_nn (by omega)) ((n32_lt (Nat.le_of_lt hlt) hn3).mpr hlt)) (D26 3 rfl) pd10 [(.int (n32 ix)), (.int (n32 cs.length))] [] [] rl0 ?_
  rintro T2 _ _ _ ⟨rfl, rfl, rfl⟩ hro2 S2
  replace S2 := S2.n0
  exact C.rV S2 (D26 4 rfl) [] ⟨rfl, rfl, rfl⟩
theorem pd13 : parseMethodDescriptor "(I[B)V" = some ⟨[.int, (.array .byte)], none⟩ := by decide +kernel
theorem u16ca (H : Hy a0 Z cst dce nona sfv) (b : Addr) (cs : List Int32) (ix : Nat) (hlt : ix < cs.length) (hn3 : cs.length ≤ 3) (hkk : ∀ j, Chr (cs.getD j 0)) :
    Con lch Z consts_1 Y27 jdk_52_method_83_code 2 (some .char) (rm 3 0 0 40) #[(.ref b), (.int (n32 ix))] [] [(b, Ary Z .byte (u16 cs))]
      (fun rv L1 M1 => rv = some (.int (cs.getD ix 0)) ∧ L1 = [] ∧ M1 = []) := by
  refine Con.ob #[vr b, vi (n32 ix)] (plainFor_of_name pn3) ?_
  intro p e s m below meth c T0 h0 C S0
  refine C.i1 S0 (D27 0 rfl) rfl <| C.a1 S0 (D27 1 rfl) rfl rfl <| C.xs S0 (W H 392 rfl) (W H 393 rfl) (W H 320 rfl) (W H 394 rfl) (u16ci H b cs ix hlt hn3) (D27 2 rfl) pd13 [(.int (n32 ix)), (.ref b)] [] [] (rlN (S0.atM 0 rfl) rl0) ?_
  rintro T1 _ _ _ ⟨rfl, rfl, rfl⟩ hro1 S1
  replace S1 := S1.n0
  refine C.a1 S1 (D27 3 rfl) rfl rfl <| C.i1 S1 (D27 4 rfl) rfl <| C.xs S1 (W H 341 rfl) (W H 342 rfl) (W H 320 rfl) (W H 343 rfl) (getG H b cs ix hlt hn3 (hkk _)) (D27 5 rfl) pd5 [(.ref b), (.int (n32 ix))] [] [] (rlN (S1.atM 0 rfl) rl0) ?_
  rintro T2 _ _ _ ⟨rfl, rfl, rfl⟩ hro2 S2
  replace S2 := S2.n0
  exact C.rN S2 (D27 6 rfl) (cs.getD ix 0) (char_nar (hkk _)) [] ⟨rfl, rfl, rfl⟩
theorem caU (H : Hy a0 Z cst dce nona sfv) (t b : Addr) (cs : List Int32) (ix : Nat) (hlt : ix < cs.length) (hn3 : cs.length ≤ 3) (hkk : ∀ j, Chr (cs.getD j 0)) :
    Con lch Z consts_1 Y23 jdk_42_method_56_code 2 (some .char) (rm 5 0 0 75) #[(.ref t), (.int (n32 ix))] [] [(t, O0 Z (.int 1) (.ref b)), (b, Ary Z .byte (u16 cs))]
      (fun rv L1 M1 => rv = some (.int (cs.getD ix 0)) ∧ L1 = [] ∧ M1 = []) := by
  refine Con.ob #[vr t, vi (n32 ix)] (plainFor_of_name pn0) ?_
  intro p e s m below meth c T0 h0 C S0
  refine C.a1 S0 (D23 0 rfl) rfl rfl <| C.xv S0 (S0.exaM 0 rfl) (W H 352 rfl) (W H 353 rfl) (Or.inl ⟨_, (W H 355 rfl)⟩) (W H 355 rfl) (W H 354 rfl) (W H 11 rfl) (W H 356 rfl) (isLat1 H t b) (D23 1 rfl) pd11 [] [] [] (rlN (S0.atM 0 rfl) rl0) ?_
  rintro T1 _ _ _ ⟨rfl, rfl, rfl⟩ hro1 S1
  replace S1 := S1.n0
  refine C.if_eqT S1 (D23 2 rfl) 16 rfl (by decide) <| C.a1 S1 (D23 8 rfl) rfl rfl <| C.gf S1 (W H 28 rfl) (D23 9 rfl) (S1.fldM 0 rfl 1 rfl) 20 rfl fun T3 S3 => C.i1 S3 (D23 10 rfl) rfl <| C.xs S3 (W H 389 rfl) (W H 390 rfl) (W H 320 rfl) (W H 391 rfl) (u16ca H b cs ix hlt hn3 hkk) (D23 11 rfl) pd5 [(.ref b), (.int (n32 ix))] [] [] (rlN (S3.atM 1 rfl) rl0) ?_
  rintro T4 _ _ _ ⟨rfl, rfl, rfl⟩ hro4 S4
  replace S4 := S4.n0
  exact C.rN S4 (D23 12 rfl) (cs.getD ix 0) (char_nar (hkk _)) [] ⟨rfl, rfl, rfl⟩
theorem pd14 : parseMethodDescriptor "(C)Z" = some ⟨[.char], some .boolean⟩ := by decide +kernel
theorem pd15 : parseMethodDescriptor "(CC)I" = some ⟨[.char, .char], some .int⟩ := by decide +kernel
theorem u4G (H : Hy a0 Z cst dce nona sfv) (b : Addr) (cs : List Int32) (ix : Nat) (hlt : ix < cs.length) (hn3 : cs.length ≤ 3) (hkk : ∀ j, Chr (cs.getD j 0)) :
    Con lch Z consts_1 Y28 jdk_52_method_7_code 6 (some .int) (rm 1 0 0 13) #[(.ref b), (.int (n32 ix)), (.int (n32 cs.length)), (.int 0)] [] [(b, Ary Z .byte (u16 cs))]
      (fun rv L1 M1 => rv = some (.int (cpAt cs ix)) ∧ L1 = [] ∧ M1 = []) := by
  refine Con.ob #[vr b, vi (n32 ix), vi (n32 cs.length), vi 0, us, us] (plainFor_of_name pn3) ?_
  intro p e s m below meth c T0 h0 C S0
  refine C.getstatic S0 (host := "") (Or.inl (W H 338 rfl)) Via.refl (D28 0 rfl) H.2.2.2.hAD 3 rfl fun T1 S1 => C.if_neT S1 (D28 1 rfl) 19 rfl (by decide) <| C.i1 S1 (D28 2 rfl) rfl <| C.if_eqT S1 (D28 3 rfl) 28 rfl (by decide) <| C.a1 S1 (D28 4 rfl) rfl rfl <| C.i1 S1 (D28 5 rfl) rfl <| C.xs S1 (W H 341 rfl) (W H 342 rfl) (W H 320 rfl) (W H 343 rfl) (getG H b cs ix hlt hn3 (hkk _)) (D28 6 rfl) pd5 [(.ref b), (.int (n32 ix))] [] [] (rlN (S1.atM 0 rfl) rl0) ?_
  rintro T4 _ _ _ ⟨rfl, rfl, rfl⟩ hro4 S4
  replace S4 := S4.n0
  refine C.istore S4 (D28 7 rfl) 35 rfl #[vr b, vi (n32 ix), vi (n32 cs.length), vi 0, vi (cs.getD ix 0), us] rfl <| C.i2 S4 (D28 8 rfl) rfl <| C.xs S4 (W H 371 rfl) (W H 372 rfl) (W H 373 rfl) (W H 374 rfl) (isHi H (cs.getD ix 0)) (D28 9 rfl) pd14 [(.int (cs.getD ix 0))] [] [] rl0 ?_
  rintro T5 _ _ _ ⟨rfl, rfl, rfl⟩ hro5 S5
  replace S5 := S5.n0
  refine C.if_eq S5 (D28 10 rfl) 83 43 (by decide) (by decide) rfl (fun hc6 => ?_) fun hc6 => ?_
  · refine C.i2 S5 (D28 11 rfl) rfl ?_
    exact C.rI S5 (D28 12 rfl) [] ⟨by rw [cp_a hc6], rfl, rfl⟩
  · refine C.iinc S5 (D28 13 rfl) 46 rfl rfl (n32 (ix + 1)) 1 rfl n32_suc #[vr b, vi (n32 (ix + 1)), vi (n32 cs.length), vi 0, vi (cs.getD ix 0), us] rfl <| C.i1 S5 (D28 14 rfl) rfl <| C.i1 S5 (D28 15 rfl) rfl <| C.icmp_ge S5 (D28 16 rfl) 83 51 (by decide) (by decide) rfl (fun hc7 => ?_) fun hc7 => ?_
    · refine C.i2 S5 (D28 11 rfl) rfl ?_
      exact C.rI S5 (D28 12 rfl) [] ⟨by rw [cp_b hc6 (fun w => hc7 ((n32_lt (Nat.succ_le_of_lt hlt) hn3).mpr w))], rfl, rfl⟩
    · refine C.i1 S5 (D28 17 rfl) rfl <| C.if_eqT S5 (D28 18 rfl) 60 rfl (by decide) <| C.a1 S5 (D28 19 rfl) rfl rfl <| C.i1 S5 (D28 20 rfl) rfl <| C.xs S5 (W H 341 rfl) (W H 342 rfl) (W H 320 rfl) (W H 343 rfl) (getG H b cs (ix + 1) ((n32_lt (Nat.succ_le_of_lt hlt) hn3).mp hc7) hn3 (hkk _)) (D28 21 rfl) pd5 [(.ref b), (.int (n32 (ix + 1)))] [] [] (rlN (S5.atM 0 rfl) rl0) ?_
      rintro T9 _ _ _ ⟨rfl, rfl, rfl⟩ hro9 S9
      replace S9 := S9.n0
      refine C.istore S9 (D28 22 rfl) 67 rfl #[vr b, vi (n32 (ix + 1)), vi (n32 cs.length), vi 0, vi (cs.getD ix 0), vi (cs.getD (ix + 1) 0)] rfl <| C.i2 S9 (D28 23 rfl) rfl <| C.xs S9 (W H 377 rfl) (W H 378 rfl) (W H 373 rfl) (W H 379 rfl) (isLo H (cs.getD (ix + 1) 0)) (D28 24 rfl) pd14 [(.int (cs.getD (ix + 1) 0))] [] [] rl0 ?_
      rintro T10 _ _ _ ⟨rfl, rfl, rfl⟩ hro10 S10
      replace S10 := S10.n0
      refine C.if_eq S10 (D28 25 rfl) 83 75 (by decide) (by decide) rfl (fun hc11 => ?_) fun hc11 => ?_
      · refine C.i2 S10 (D28 11 rfl) rfl ?_
        exact C.rI S10 (D28 12 rfl) [] ⟨by rw [cp_c hc6 ((n32_lt (Nat.succ_le_of_lt hlt) hn3).mp hc7) hc11], rfl, rfl⟩
      · refine C.i2 S10 (D28 26 rfl) rfl <| C.i2 S10 (D28 27 rfl) rfl <| C.xs S10 (W H 438 rfl) (W H 439 rfl) (W H 373 rfl) (W H 440 rfl) (toCpC H (cs.getD ix 0) (cs.getD (ix + 1) 0)) (D28 28 rfl) pd15 [(.int (cs.getD ix 0)), (.int (cs.getD (ix + 1) 0))] [] [] rl0 ?_
        rintro T12 _ _ _ ⟨rfl, rfl, rfl⟩ hro12 S12
        replace S12 := S12.n0
        exact C.rI S12 (D28 29 rfl) [] ⟨by rw [cp_d hc6 ((n32_lt (Nat.succ_le_of_lt hlt) hn3).mp hc7) hc11], rfl, rfl⟩
theorem pd16 : parseMethodDescriptor "([BIIZ)I" = some ⟨[(.array .byte), .int, .int, .boolean], some .int⟩ := by decide +kernel
theorem u3G (H : Hy a0 Z cst dce nona sfv) (b : Addr) (cs : List Int32) (ix : Nat) (hlt : ix < cs.length) (hn3 : cs.length ≤ 3) (hkk : ∀ j, Chr (cs.getD j 0)) :
    Con lch Z consts_1 Y29 jdk_52_method_8_code 3 (some .int) (rm 2 0 0 30) #[(.ref b), (.int (n32 ix)), (.int (n32 cs.length))] [] [(b, Ary Z .byte (u16 cs))]
      (fun rv L1 M1 => rv = some (.int (cpAt cs ix)) ∧ L1 = [] ∧ M1 = []) := by
  refine Con.ob #[vr b, vi (n32 ix), vi (n32 cs.length)] (plainFor_of_name pn3) ?_
  intro p e s m below meth c T0 h0 C S0
  refine C.a1 S0 (D29 0 rfl) rfl rfl <| C.i1 S0 (D29 1 rfl) rfl <| C.i1 S0 (D29 2 rfl) rfl <| C.k1 S0 (D29 3 rfl) 0 rfl <| C.xs S0 (W H 368 rfl) (W H 369 rfl) (W H 320 rfl) (W H 370 rfl) (u4G H b cs ix hlt hn3 hkk) (D29 4 rfl) pd16 [(.ref b), (.int (n32 ix)), (.int (n32 cs.length)), (.int 0)] [] [] (rlN (S0.atM 0 rfl) rl0) ?_
  rintro T1 _ _ _ ⟨rfl, rfl, rfl⟩ hro1 S1
  replace S1 := S1.n0
  exact C.rI S1 (D29 5 rfl) [] ⟨rfl, rfl, rfl⟩
theorem pd17 : parseMethodDescriptor "([BII)I" = some ⟨[(.array .byte), .int, .int], some .int⟩ := by decide +kernel
theorem cpaU (H : Hy a0 Z cst dce nona sfv) (t b : Addr) (cs : List Int32) (ix : Nat) (hlt : ix < cs.length) (hn3 : cs.length ≤ 3) (hkk : ∀ j, Chr (cs.getD j 0)) :
    Con lch Z consts_1 Y24 jdk_42_method_57_code 3 (some .int) (rm 5 0 0 75) #[(.ref t), (.int (n32 ix))] [] [(t, O0 Z (.int 1) (.ref b)), (b, Ary Z .byte (u16 cs))]
      (fun rv L1 M1 => rv = some (.int (cpAt cs ix)) ∧ L1 = [] ∧ M1 = []) := by
  refine Con.ob #[vr t, vi (n32 ix), us] (plainFor_of_name pn0) ?_
  intro p e s m below meth c T0 h0 C S0
  refine C.a1 S0 (D24 0 rfl) rfl rfl <| C.xv S0 (S0.exaM 0 rfl) (W H 352 rfl) (W H 353 rfl) (Or.inl ⟨_, (W H 355 rfl)⟩) (W H 355 rfl) (W H 354 rfl) (W H 11 rfl) (W H 356 rfl) (isLat1 H t b) (D24 1 rfl) pd11 [] [] [] (rlN (S0.atM 0 rfl) rl0) ?_
  rintro T1 _ _ _ ⟨rfl, rfl, rfl⟩ hro1 S1
  replace S1 := S1.n0
  refine C.if_eqT S1 (D24 2 rfl) 27 rfl (by decide) <| C.a1 S1 (D24 15 rfl) rfl rfl <| C.gf S1 (W H 28 rfl) (D24 16 rfl) (S1.fldM 0 rfl 1 rfl) 31 rfl fun T3 S3 => C.arraylength S3 (S3.atM 1 rfl) (D24 17 rfl) 32 rfl (n32 (2 * cs.length)) (by rw [u16_len]; rfl) <| C.k1 S3 (D24 18 rfl) 1 rfl <| C.ishr S3 (D24 19 rfl) 34 rfl (n32 cs.length) (n32_half hn3) <| C.istoreN S3 (D24 20 rfl) 35 rfl #[vr t, vi (n32 ix), vi (n32 cs.length)] rfl <| C.i1 S3 (D24 21 rfl) rfl <| C.i1 S3 (D24 22 rfl) rfl <| C.xs S3 (W H 357 rfl) (W H 358 rfl) (W H 11 rfl) (W H 359 rfl) (sci H (n32 ix) (n32 cs.length) (n32_nn (by omega)) ((n32_lt (Nat.le_of_lt hlt) hn3).mpr hlt)) (D24 23 rfl) pd10 [(.int (n32 ix)), (.int (n32 cs.length))] [] [] rl0 ?_
  rintro T4 _ _ _ ⟨rfl, rfl, rfl⟩ hro4 S4
  replace S4 := S4.n0
  refine C.a1 S4 (D24 24 rfl) rfl rfl <| C.gf S4 (W H 28 rfl) (D24 25 rfl) (S4.fldM 0 rfl 1 rfl) 44 rfl fun T5 S5 => C.i1 S5 (D24 26 rfl) rfl <| C.i1 S5 (D24 27 rfl) rfl <| C.xs S5 (W H 365 rfl) (W H 366 rfl) (W H 320 rfl) (W H 367 rfl) (u3G H b cs ix hlt hn3 hkk) (D24 28 rfl) pd17 [(.ref b), (.int (n32 ix)), (.int (n32 cs.length))] [] [] (rlN (S5.atM 1 rfl) rl0) ?_
  rintro T6 _ _ _ ⟨rfl, rfl, rfl⟩ hro6 S6
  replace S6 := S6.n0
  exact C.rI S6 (D24 29 rfl) [] ⟨rfl, rfl, rfl⟩
def Tx (lch : Launch) (Z : State) (t b : Addr) (PT PB : Cell → Prop) (cs : List Int32) : Prop :=
  (∀ h : Heap, (∃ c, h[t]? = some c ∧ PT c) → Exa Z h t "java/lang/String") ∧
  (Con lch Z consts_1 Y21 jdk_42_method_54_code 1 (some .int) (rm 2 0 0 30) #[(.ref t)] [] [(t, PT), (b, PB)]
      (fun rv L1 M1 => rv = some (.int (n32 cs.length)) ∧ L1 = [] ∧ M1 = [])) ∧
  (∀ ix, ix < cs.length → Con lch Z consts_1 Y23 jdk_42_method_56_code 2 (some .char) (rm 5 0 0 75) #[(.ref t), (.int (n32 ix))] [] [(t, PT), (b, PB)]
      (fun rv L1 M1 => rv = some (.int (cs.getD ix 0)) ∧ L1 = [] ∧ M1 = [])) ∧
  (∀ ix, ix < cs.length → Con lch Z consts_1 Y24 jdk_42_method_57_code 3 (some .int) (rm 5 0 0 75) #[(.ref t), (.int (n32 ix))] [] [(t, PT), (b, PB)]
      (fun rv L1 M1 => rv = some (.int (cpAt cs ix)) ∧ L1 = [] ∧ M1 = []))
theorem txLen (H : Hy a0 Z cst dce nona sfv) (t b : Addr) (PT PB : Cell → Prop) (cs : List Int32) (hT : Tx lch Z t b PT PB cs) :
    Con lch Z consts_1 Y21 jdk_42_method_54_code 1 (some .int) (rm 2 0 0 30) #[(.ref t)] [] [(t, PT), (b, PB)]
      (fun rv L1 M1 => rv = some (.int (n32 cs.length)) ∧ L1 = [] ∧ M1 = []) := hT.2.1
theorem txCa (H : Hy a0 Z cst dce nona sfv) (t b : Addr) (PT PB : Cell → Prop) (cs : List Int32) (ix : Nat) (hT : Tx lch Z t b PT PB cs) (hlt : ix < cs.length) :
    Con lch Z consts_1 Y23 jdk_42_method_56_code 2 (some .char) (rm 5 0 0 75) #[(.ref t), (.int (n32 ix))] [] [(t, PT), (b, PB)]
      (fun rv L1 M1 => rv = some (.int (cs.getD ix 0)) ∧ L1 = [] ∧ M1 = []) := hT.2.2.1 ix hlt
theorem txCp (H : Hy a0 Z cst dce nona sfv) (t b : Addr) (PT PB : Cell → Prop) (cs : List Int32) (ix : Nat) (hT : Tx lch Z t b PT PB cs) (hlt : ix < cs.length) :
    Con lch Z consts_1 Y24 jdk_42_method_57_code 3 (some .int) (rm 5 0 0 75) #[(.ref t), (.int (n32 ix))] [] [(t, PT), (b, PB)]
      (fun rv L1 M1 => rv = some (.int (cpAt cs ix)) ∧ L1 = [] ∧ M1 = []) := hT.2.2.2 ix hlt
theorem txL (H : Hy a0 Z cst dce nona sfv) {t b : Addr} {cs : List Int32} (hn3 : cs.length ≤ 3) (hkk : ∀ j, Chr (cs.getD j 0)) (hq : ∀ j, ¬ cs.getD j 0 < 0 ∧ ¬ 255 < cs.getD j 0) : Tx lch Z t b (O0 Z (.int 0) (.ref b)) (Ary Z .byte (encB cs)) cs :=
  ⟨fun h q => by obtain ⟨c, h1, h2⟩ := q; exact h2.exa h1, lenL H t b cs, fun ix hlt => caL H t b cs ix hlt hn3 hkk hq, fun ix hlt => cpaL H t b cs ix hlt hn3 hkk hq⟩
theorem txU (H : Hy a0 Z cst dce nona sfv) {t b : Addr} {cs : List Int32} (hn3 : cs.length ≤ 3) (hkk : ∀ j, Chr (cs.getD j 0)) : Tx lch Z t b (O0 Z (.int 1) (.ref b)) (Ary Z .byte (u16 cs)) cs :=
  ⟨fun h q => by obtain ⟨c, h1, h2⟩ := q; exact h2.exa h1, lenU H t b cs hn3, fun ix hlt => caU H t b cs ix hlt hn3 hkk, fun ix hlt => cpaU H t b cs ix hlt hn3 hkk⟩
theorem pn6 : plainName "java/util/AbstractCollection" = true := by first | (simp [plainName, overriddenIn]; done) | decide +kernel
theorem acInit (H : Hy a0 Z cst dce nona sfv) (t : Addr) :
    Con lch Z consts_1 Y30 jdk_22_method_1_code 1 none (rm 1 0 0 12) #[(.ref t)] [] []
      (fun rv L1 M1 => rv = none ∧ L1 = [] ∧ M1 = []) := by
  refine Con.ob #[vr t] (plainFor_of_name pn6) ?_
  intro p e s m below meth c T0 h0 C S0
  refine C.a1 S0 (D30 0 rfl) rfl rfl <| C.objInit S0 (W H 62 rfl) (W H 20 rfl) (W H 21 rfl) (D30 1 rfl) 4 rfl rfl (leD rfl) (leD rfl) fun T1 S1 => ?_
  exact C.rV S1 (D30 2 rfl) [] ⟨rfl, rfl, rfl⟩
abbrev O1 (Z : State) (v0 : Value) (v1 : Value) (v2 : Value) : Cell → Prop := Obj Z "java/util/ArrayList" [("java/util/AbstractList", "modCount", "I", v0), ("java/util/ArrayList", "elementData", "[Ljava/lang/Object;", v1), ("java/util/ArrayList", "size", "I", v2)]
theorem pd18 : parseMethodDescriptor "()V" = some ⟨[], none⟩ := by decide +kernel
theorem pn7 : plainName "java/util/AbstractList" = true := by first | (simp [plainName, overriddenIn]; done) | decide +kernel
theorem abInit (H : Hy a0 Z cst dce nona sfv) (t : Addr) :
    Con lch Z consts_1 Y31 jdk_39_method_1_code 1 none (rm 2 0 0 24) #[(.ref t)] [(t, O1 Z (.int 0) .null (.int 0))] []
      (fun rv L1 M1 => rv = none ∧ L1 = [(t, O1 Z (.int 0) .null (.int 0))] ∧ M1 = []) := by
  refine Con.ob #[vr t] (plainFor_of_name pn7) ?_
  intro p e s m below meth c T0 h0 C S0
  refine C.a1 S0 (D31 0 rfl) rfl rfl <| C.xi (a := t) S0 (W H 56 rfl) (W H 57 rfl) (W H 60 rfl) (W H 61 rfl) (acInit H t) (D31 1 rfl) pd18 [] [] [] rl0 ?_
  rintro T1 _ _ _ ⟨rfl, rfl, rfl⟩ hro1 S1
  replace S1 := S1.n0
  refine C.a1 S1 (D31 2 rfl) rfl rfl <| C.k1 S1 (D31 3 rfl) 0 rfl <| C.putfield S1 (host := "") (Or.inl (W H 63 rfl)) Via.refl (D31 4 rfl) 0 rfl 0 rfl (Or.inl (W H 64 rfl)) (W H 45 rfl) (ty := .int) (by decide) rfl rfl 9 rfl fun T2 S2 => ?_
  exact C.rV S2 (D31 5 rfl) [0] ⟨rfl, rfl, rfl⟩
theorem pn8 : plainName "java/util/ArrayList" = true := by first | (simp [plainName, overriddenIn]; done) | decide +kernel
theorem alInit (H : Hy a0 Z cst dce nona sfv) (t : Addr) :
    Con lch Z consts_1 Y32 jdk_38_method_2_code 1 none (rm 3 0 0 36) #[(.ref t)] [(t, O1 Z (.int 0) .null (.int 0))] []
      (fun rv L1 M1 => rv = none ∧ L1 = [(t, O1 Z (.int 0) (.ref dce) (.int 0))] ∧ M1 = []) := by
  refine Con.ob #[vr t] (plainFor_of_name pn8) ?_
  intro p e s m below meth c T0 h0 C S0
  refine C.a1 S0 (D32 0 rfl) rfl rfl <| C.xi (a := t) S0 (W H 50 rfl) (W H 51 rfl) (W H 54 rfl) (W H 55 rfl) (abInit H t) (D32 1 rfl) pd18 [] [] [0] rl0 ?_
  rintro T1 _ _ _ ⟨rfl, rfl, rfl⟩ hro1 S1
  replace S1 := S1.nc (L' := [(t, O1 Z (.int 0) .null (.int 0))]) rfl
  refine C.a1 S1 (D32 2 rfl) rfl rfl <| C.getstatic S1 (host := "") (Or.inl (W H 65 rfl)) Via.refl (D32 3 rfl) H.2.2.2.hDC 8 rfl fun T2 S2 => C.putfield S2 (host := "") (Or.inl (W H 66 rfl)) Via.refl (D32 4 rfl) 0 rfl 1 rfl (Or.inl (W H 67 rfl)) (W H 45 rfl) (ty := (.array (.object "java/lang/Object"))) (by decide) rfl rfl 11 rfl fun T3 S3 => ?_
  exact C.rV S3 (D32 5 rfl) [0] ⟨rfl, rfl, rfl⟩
theorem pn9 : plainName "java/util/AbstractMap" = true := by first | (simp [plainName, overriddenIn]; done) | decide +kernel
theorem amInit (H : Hy a0 Z cst dce nona sfv) (t : Addr) :
    Con lch Z consts_1 Y33 jdk_71_method_1_code 1 none (rm 1 0 0 12) #[(.ref t)] [] []
      (fun rv L1 M1 => rv = none ∧ L1 = [] ∧ M1 = []) := by
  refine Con.ob #[vr t] (plainFor_of_name pn9) ?_
  intro p e s m below meth c T0 h0 C S0
  refine C.a1 S0 (D33 0 rfl) rfl rfl <| C.objInit S0 (W H 82 rfl) (W H 20 rfl) (W H 21 rfl) (D33 1 rfl) 4 rfl rfl (leD rfl) (leD rfl) fun T1 S1 => ?_
  exact C.rV S1 (D33 2 rfl) [] ⟨rfl, rfl, rfl⟩
abbrev O2 (Z : State) (v0 : Value) : Cell → Prop := Obj Z "java/util/HashMap" [("java/util/HashMap", "loadFactor", "F", v0)]
theorem pn10 : plainName "java/util/HashMap" = true := by first | (simp [plainName, overriddenIn]; done) | decide +kernel
theorem hmInit (H : Hy a0 Z cst dce nona sfv) (t : Addr) :
    Con lch Z consts_1 Y34 jdk_69_method_7_code 1 none (rm 2 0 0 24) #[(.ref t)] [(t, O2 Z (.float 0))] []
      (fun rv L1 M1 => rv = none ∧ L1 = [(t, O2 Z (.float 1061158912))] ∧ M1 = []) := by
  refine Con.ob #[vr t] (plainFor_of_name pn10) ?_
  intro p e s m below meth c T0 h0 C S0
  refine C.a1 S0 (D34 0 rfl) rfl rfl <| C.xi (a := t) S0 (W H 76 rfl) (W H 77 rfl) (W H 80 rfl) (W H 81 rfl) (amInit H t) (D34 1 rfl) pd18 [] [] [] rl0 ?_
  rintro T1 _ _ _ ⟨rfl, rfl, rfl⟩ hro1 S1
  replace S1 := S1.n0
  refine C.a1 S1 (D34 2 rfl) rfl rfl <| C.ldcF S1 (W H 83 rfl) (D34 3 rfl) 7 rfl <| C.putfield S1 (host := "") (Or.inl (W H 84 rfl)) Via.refl (D34 4 rfl) 0 rfl 0 rfl (Or.inr ⟨(W H 85 rfl), rfl, rfl⟩) (W H 71 rfl) (ty := .float) (by decide) rfl rfl 10 rfl fun T2 S2 => ?_
  exact C.rV S2 (D34 5 rfl) [0] ⟨rfl, rfl, rfl⟩
abbrev O3 (Z : State) (v0 : Value) (v1 : Value) (v2 : Value) (v3 : Value) (v4 : Value) (v5 : Value) (v6 : Value) : Cell → Prop := Obj Z "com/example/honest_errors/honesterrors/jsonschema/RegexAssembler" [("com/example/honest_errors/honesterrors/jsonschema/RegexAssembler", "op", "[B", v0), ("com/example/honest_errors/honesterrors/jsonschema/RegexAssembler", "operands", "[[I", v1), ("com/example/honest_errors/honesterrors/jsonschema/RegexAssembler", "leaves", "Ljava/util/List;", v2), ("com/example/honest_errors/honesterrors/jsonschema/RegexAssembler", "leafIndex", "Ljava/util/Map;", v3), ("com/example/honest_errors/honesterrors/jsonschema/RegexAssembler", "rememberingLoops", "Ljava/util/List;", v4), ("com/example/honest_errors/honesterrors/jsonschema/RegexAssembler", "nodes", "I", v5), ("com/example/honest_errors/honesterrors/jsonschema/RegexAssembler", "registers", "I", v6)]
theorem layO1 {a0 : Array Value} {Z : State} (hw : Hw a0 Z) : LaidAll Z a0 "java/util/ArrayList" [("java/util/AbstractList", "modCount", "I", .int), ("java/util/ArrayList", "elementData", "[Ljava/lang/Object;", (.array (.object "java/lang/Object"))), ("java/util/ArrayList", "size", "I", .int)] := ⟨⟨Or.inl (W0 hw 64 rfl), by decide⟩, ⟨⟨Or.inl (W0 hw 67 rfl), by decide⟩, ⟨⟨Or.inl (W0 hw 167 rfl), by decide⟩, trivial⟩⟩⟩
theorem layO2 {a0 : Array Value} {Z : State} (hw : Hw a0 Z) : LaidAll Z a0 "java/util/HashMap" [("java/util/HashMap", "loadFactor", "F", .float)] := ⟨⟨Or.inr (W0 hw 85 rfl), by decide⟩, trivial⟩
theorem pn11 : plainName "com/example/honest_errors/honesterrors/jsonschema/RegexAssembler" = true := by first | (simp [plainName, overriddenIn]; done) | decide +kernel
theorem raInit (H : Hy a0 Z cst dce nona sfv) (o : Addr) :
    Con lch Z consts_1 Y35 prog_28_method_1_code 1 none (rm 4 10 115 50) #[(.ref o)] [(o, O3 Z .null .null .null .null .null (.int 0) (.int 0))] []
      (fun rv L1 M1 => ∃ (bo : Addr), ∃ (g0 : Addr), ∃ (l1 : Addr), ∃ (hm : Addr), ∃ (l2 : Addr), ∃ (ga : Addr), ∃ (gb : Addr), ∃ (gc : Addr), ∃ (gd : Addr), ∃ (ge : Addr), rv = none ∧ L1 = [(o, O3 Z (.ref bo) (.ref g0) (.ref l1) (.ref hm) (.ref l2) (.int 0) (.int 0)), (bo, Ary Z .byte ((.int 0) :: (.int 0) :: (.int 0) :: z13)), (g0, Ary Z (.array .int) [(.ref ga), (.ref gb), (.ref gc), (.ref gd), (.ref ge)]), (ga, Ary Z .int ((.int 0) :: (.int 0) :: (.int 0) :: z13)), (gb, Ary Z .int ((.int 0) :: (.int 0) :: (.int 0) :: z13)), (gc, Ary Z .int ((.int 0) :: (.int 0) :: (.int 0) :: z13)), (gd, Ary Z .int ((.int 0) :: (.int 0) :: (.int 0) :: z13)), (ge, Ary Z .int ((.int 0) :: (.int 0) :: (.int 0) :: z13)), (l1, O1 Z (.int 0) (.ref dce) (.int 0)), (l2, O1 Z (.int 0) (.ref dce) (.int 0))] ∧ M1 = []) := by
  refine Con.ob #[vr o] (plainFor_of_name pn11) ?_
  intro p e s m below meth c T0 h0 C S0
  refine C.a1 S0 (D35 0 rfl) rfl rfl <| C.objInit S0 (W H 36 rfl) (W H 20 rfl) (W H 21 rfl) (D35 1 rfl) 4 rfl rfl (leD rfl) (leD rfl) fun T1 S1 => C.a1 S1 (D35 2 rfl) rfl rfl <| C.k2 S1 (D35 3 rfl) 16 rfl <| C.newarray (aty := .byte) S1 (W H 23 rfl) (D35 4 rfl) 9 rfl (by decide) 16 rfl 16 (leD rfl) (by decide) (leD rfl) (leD rfl) fun T2 b2 S2 => C.putfield S2 (host := "") (Or.inl (W H 37 rfl)) Via.refl (D35 5 rfl) 0 rfl 0 rfl (Or.inl (W H 38 rfl)) (W H 31 rfl) (ty := (.array .byte)) (by decide) rfl rfl 12 rfl fun T3 S3 => C.a1 S3 (D35 6 rfl) rfl rfl <| C.k1 S3 (D35 7 rfl) 5 rfl <| C.k2 S3 (D35 8 rfl) 16 rfl <| C.multi5 (ty := .int) S3 (Cn := "[I") (ad := "[[I") (by decide) (by decide) (W H 39 rfl) (W H 40 rfl) (W H 41 rfl) (D35 9 rfl) 20 rfl (by decide) (by decide) rfl 16 rfl (by decide) rfl rfl (leD rfl) (leD rfl) fun T4 b4 b4_0 b4_1 b4_2 b4_3 b4_4 S4 => C.putfield S4 (host := "") (Or.inl (W H 42 rfl)) Via.refl (D35 10 rfl) 0 rfl 1 rfl (Or.inl (W H 43 rfl)) (W H 31 rfl) (ty := (.array (.array .int))) (by decide) rfl rfl 23 rfl fun T5 S5 => ?_
  refine C.a1 S5 (D35 11 rfl) rfl rfl <| C.new S5 (W H 44 rfl) (W H 45 rfl) (W H 46 rfl) (D35 12 rfl) (layO1 H.1) (by decide) 27 rfl (leD rfl) (leD rfl) fun T6 b6 S6 => ?_
  replace S6 := S6.asL (L' := [(o, O3 Z (.ref b2) (.ref b4) .null .null .null (.int 0) (.int 0)), (b2, Ary Z .byte ((.int 0) :: (.int 0) :: (.int 0) :: z13)), (b4, Ary Z (.array .int) [(.ref b4_0), (.ref b4_1), (.ref b4_2), (.ref b4_3), (.ref b4_4)]), (b4_0, Ary Z .int ((.int 0) :: (.int 0) :: (.int 0) :: z13)), (b4_1, Ary Z .int ((.int 0) :: (.int 0) :: (.int 0) :: z13)), (b4_2, Ary Z .int ((.int 0) :: (.int 0) :: (.int 0) :: z13)), (b4_3, Ary Z .int ((.int 0) :: (.int 0) :: (.int 0) :: z13)), (b4_4, Ary Z .int ((.int 0) :: (.int 0) :: (.int 0) :: z13)), (b6, O1 Z (.int 0) .null (.int 0))]) rfl
  refine C.dup S6 (D35 13 rfl) 28 rfl rfl <| C.xi (a := b6) S6 (W H 47 rfl) (W H 48 rfl) (W H 46 rfl) (W H 49 rfl) (alInit H b6) (D35 14 rfl) pd18 [] [(.ref b6), (.ref o)] [8] rl0 ?_
  rintro T7 _ _ _ ⟨rfl, rfl, rfl⟩ hro7 S7
  replace S7 := S7.nc (L' := [(o, O3 Z (.ref b2) (.ref b4) .null .null .null (.int 0) (.int 0)), (b2, Ary Z .byte ((.int 0) :: (.int 0) :: (.int 0) :: z13)), (b4, Ary Z (.array .int) [(.ref b4_0), (.ref b4_1), (.ref b4_2), (.ref b4_3), (.ref b4_4)]), (b4_0, Ary Z .int ((.int 0) :: (.int 0) :: (.int 0) :: z13)), (b4_1, Ary Z .int ((.int 0) :: (.int 0) :: (.int 0) :: z13)), (b4_2, Ary Z .int ((.int 0) :: (.int 0) :: (.int 0) :: z13)), (b4_3, Ary Z .int ((.int 0) :: (.int 0) :: (.int 0) :: z13)), (b4_4, Ary Z .int ((.int 0) :: (.int 0) :: (.int 0) :: z13)), (b6, O1 Z (.int 0) (.ref dce) (.int 0))]) rfl
  refine C.putfield S7 (host := "") (Or.inl (W H 68 rfl)) Via.refl (D35 15 rfl) 0 rfl 2 rfl (Or.inr ⟨(W H 69 rfl), rfl, rfl⟩) (W H 31 rfl) (ty := (.object "java/util/List")) (by decide) rfl rfl 34 rfl fun T8 S8 => C.a1 S8 (D35 16 rfl) rfl rfl <| C.new S8 (W H 70 rfl) (W H 71 rfl) (W H 72 rfl) (D35 17 rfl) (layO2 H.1) (by decide) 38 rfl (leD rfl) (leD rfl) fun T9 b9 S9 => C.dup S9 (D35 18 rfl) 39 rfl rfl <| C.xi (a := b9) S9 (W H 73 rfl) (W H 74 rfl) (W H 72 rfl) (W H 75 rfl) (hmInit H b9) (D35 19 rfl) pd18 [] [(.ref b9), (.ref o)] [9] rl0 ?_
  rintro T10 _ _ _ ⟨rfl, rfl, rfl⟩ hro10 S10
  replace S10 := S10.nc (L' := [(o, O3 Z (.ref b2) (.ref b4) (.ref b6) .null .null (.int 0) (.int 0)), (b2, Ary Z .byte ((.int 0) :: (.int 0) :: (.int 0) :: z13)), (b4, Ary Z (.array .int) [(.ref b4_0), (.ref b4_1), (.ref b4_2), (.ref b4_3), (.ref b4_4)]), (b4_0, Ary Z .int ((.int 0) :: (.int 0) :: (.int 0) :: z13)), (b4_1, Ary Z .int ((.int 0) :: (.int 0) :: (.int 0) :: z13)), (b4_2, Ary Z .int ((.int 0) :: (.int 0) :: (.int 0) :: z13)), (b4_3, Ary Z .int ((.int 0) :: (.int 0) :: (.int 0) :: z13)), (b4_4, Ary Z .int ((.int 0) :: (.int 0) :: (.int 0) :: z13)), (b6, O1 Z (.int 0) (.ref dce) (.int 0)), (b9, O2 Z (.float 1061158912))]) rfl
  refine C.putfield S10 (host := "") (Or.inl (W H 86 rfl)) Via.refl (D35 20 rfl) 0 rfl 3 rfl (Or.inr ⟨(W H 87 rfl), rfl, rfl⟩) (W H 31 rfl) (ty := (.object "java/util/Map")) (by decide) rfl rfl 45 rfl fun T11 S11 => C.a1 S11 (D35 21 rfl) rfl rfl <| C.new S11 (W H 44 rfl) (W H 45 rfl) (W H 46 rfl) (D35 22 rfl) (layO1 H.1) (by decide) 49 rfl (leD rfl) (leD rfl) fun T12 b12 S12 => C.dup S12 (D35 23 rfl) 50 rfl rfl <| C.xi (a := b12) S12 (W H 47 rfl) (W H 48 rfl) (W H 46 rfl) (W H 49 rfl) (alInit H b12) (D35 24 rfl) pd18 [] [(.ref b12), (.ref o)] [10] rl0 ?_
  rintro T13 _ _ _ ⟨rfl, rfl, rfl⟩ hro13 S13
  replace S13 := S13.nc (L' := [(o, O3 Z (.ref b2) (.ref b4) (.ref b6) (.ref b9) .null (.int 0) (.int 0)), (b2, Ary Z .byte ((.int 0) :: (.int 0) :: (.int 0) :: z13)), (b4, Ary Z (.array .int) [(.ref b4_0), (.ref b4_1), (.ref b4_2), (.ref b4_3), (.ref b4_4)]), (b4_0, Ary Z .int ((.int 0) :: (.int 0) :: (.int 0) :: z13)), (b4_1, Ary Z .int ((.int 0) :: (.int 0) :: (.int 0) :: z13)), (b4_2, Ary Z .int ((.int 0) :: (.int 0) :: (.int 0) :: z13)), (b4_3, Ary Z .int ((.int 0) :: (.int 0) :: (.int 0) :: z13)), (b4_4, Ary Z .int ((.int 0) :: (.int 0) :: (.int 0) :: z13)), (b6, O1 Z (.int 0) (.ref dce) (.int 0)), (b9, O2 Z (.float 1061158912)), (b12, O1 Z (.int 0) (.ref dce) (.int 0))]) rfl
  refine C.putfield S13 (host := "") (Or.inl (W H 88 rfl)) Via.refl (D35 25 rfl) 0 rfl 4 rfl (Or.inr ⟨(W H 89 rfl), rfl, rfl⟩) (W H 31 rfl) (ty := (.object "java/util/List")) (by decide) rfl rfl 56 rfl fun T14 S14 => ?_
  exact C.rV S14 (D35 26 rfl) [0, 1, 2, 3, 4, 5, 6, 7, 8, 10] ⟨b2, b4, b6, b9, b12, b4_0, b4_1, b4_2, b4_3, b4_4, rfl, rfl, rfl⟩
theorem nodeL (H : Hy a0 Z cst dce nona sfv) (o bo g0 l1 hm l2 ga gb gc gd ge : Addr) (cp : Int32) :
    Con lch Z consts_1 Y36 prog_28_method_32_code 8 (some .int) (rm 0 0 0 0) #[(.ref o), (.int 1), (.int cp), (.int 0), (.int 0), (.int 0)] [(o, O3 Z (.ref bo) (.ref g0) (.ref l1) (.ref hm) (.ref l2) (.int 0) (.int 0)), (bo, Ary Z .byte ((.int 0) :: (.int 0) :: (.int 0) :: z13)), (g0, Ary Z (.array .int) [(.ref ga), (.ref gb), (.ref gc), (.ref gd), (.ref ge)]), (ga, Ary Z .int ((.int 0) :: (.int 0) :: (.int 0) :: z13)), (gb, Ary Z .int ((.int 0) :: (.int 0) :: (.int 0) :: z13)), (gc, Ary Z .int ((.int 0) :: (.int 0) :: (.int 0) :: z13)), (gd, Ary Z .int ((.int 0) :: (.int 0) :: (.int 0) :: z13)), (ge, Ary Z .int ((.int 0) :: (.int 0) :: (.int 0) :: z13))] []
      (fun rv L1 M1 => rv = some (.int 0) ∧ L1 = [(o, O3 Z (.ref bo) (.ref g0) (.ref l1) (.ref hm) (.ref l2) (.int 1) (.int 0)), (bo, Ary Z .byte ((.int 1) :: (.int 0) :: (.int 0) :: z13)), (g0, Ary Z (.array .int) [(.ref ga), (.ref gb), (.ref gc), (.ref gd), (.ref ge)]), (ga, Ary Z .int ((.int (-1)) :: (.int 0) :: (.int 0) :: z13)), (gb, Ary Z .int ((.int cp) :: (.int 0) :: (.int 0) :: z13)), (gc, Ary Z .int ((.int 0) :: (.int 0) :: (.int 0) :: z13)), (gd, Ary Z .int ((.int 0) :: (.int 0) :: (.int 0) :: z13)), (ge, Ary Z .int ((.int 0) :: (.int 0) :: (.int 0) :: z13))] ∧ M1 = []) := by
  refine Con.ob #[vr o, vi 1, vi cp, vi 0, vi 0, vi 0, us, us] (plainFor_of_name pn11) ?_
  intro p e s m below meth c T0 h0 C S0
  refine C.a1 S0 (D36 0 rfl) rfl rfl <| C.gl S0 (W H 99 rfl) (D36 1 rfl) 0 rfl 5 rfl fun T1 S1 => C.a1 S1 (D36 2 rfl) rfl rfl <| C.gl S1 (W H 37 rfl) (D36 3 rfl) 0 rfl 0 rfl fun T2 S2 => C.arraylength S2 (S2.at 1 rfl) (D36 4 rfl) 9 rfl (16 : Int32) rfl <| C.icmp_neT S2 (D36 5 rfl) 75 rfl (by decide) <| C.a1 S2 (D36 6 rfl) rfl rfl <| C.gl S2 (W H 37 rfl) (D36 7 rfl) 0 rfl 0 rfl fun T4 S4 => C.a1 S4 (D36 8 rfl) rfl rfl <| C.gl S4 (W H 99 rfl) (D36 9 rfl) 0 rfl 5 rfl fun T5 S5 => C.i1 S5 (D36 10 rfl) rfl <| C.bastore S5 1 rfl (D36 11 rfl) 85 rfl (by decide) 0 rfl (leD rfl) (1 : Int32) (by decide) fun T6 S6 => C.a1 S6 (D36 12 rfl) rfl rfl <| C.gl S6 (W H 42 rfl) (D36 13 rfl) 0 rfl 1 rfl fun T7 S7 => C.k1 S7 (D36 14 rfl) 0 rfl <| C.aaload S7 (S7.at 2 rfl) rfl (D36 15 rfl) 91 rfl (by decide) 0 rfl rfl <| C.a1 S7 (D36 16 rfl) rfl rfl <| C.gl S7 (W H 99 rfl) (D36 17 rfl) 0 rfl 5 rfl fun T8 S8 => ?_
  refine C.k1 S8 (D36 18 rfl) (-1) rfl <| C.iastore S8 3 rfl (D36 19 rfl) 97 rfl (by decide) 0 rfl (leD rfl) (-1 : Int32) rfl fun T9 S9 => C.a1 S9 (D36 20 rfl) rfl rfl <| C.gl S9 (W H 42 rfl) (D36 21 rfl) 0 rfl 1 rfl fun T10 S10 => C.k1 S10 (D36 22 rfl) 1 rfl <| C.aaload S10 (S10.at 2 rfl) rfl (D36 23 rfl) 103 rfl (by decide) 1 rfl rfl <| C.a1 S10 (D36 24 rfl) rfl rfl <| C.gl S10 (W H 99 rfl) (D36 25 rfl) 0 rfl 5 rfl fun T11 S11 => C.i1 S11 (D36 26 rfl) rfl <| C.iastore S11 4 rfl (D36 27 rfl) 109 rfl (by decide) 0 rfl (leD rfl) cp rfl fun T12 S12 => C.a1 S12 (D36 28 rfl) rfl rfl <| C.gl S12 (W H 42 rfl) (D36 29 rfl) 0 rfl 1 rfl fun T13 S13 => C.k1 S13 (D36 30 rfl) 2 rfl <| C.aaload S13 (S13.at 2 rfl) rfl (D36 31 rfl) 115 rfl (by decide) 2 rfl rfl <| C.a1 S13 (D36 32 rfl) rfl rfl <| C.gl S13 (W H 99 rfl) (D36 33 rfl) 0 rfl 5 rfl fun T14 S14 => C.i1 S14 (D36 34 rfl) rfl <| C.iastore S14 5 rfl (D36 35 rfl) 121 rfl (by decide) 0 rfl (leD rfl) (0 : Int32) rfl fun T15 S15 => ?_
  refine C.a1 S15 (D36 36 rfl) rfl rfl <| C.gl S15 (W H 42 rfl) (D36 37 rfl) 0 rfl 1 rfl fun T16 S16 => C.k1 S16 (D36 38 rfl) 3 rfl <| C.aaload S16 (S16.at 2 rfl) rfl (D36 39 rfl) 127 rfl (by decide) 3 rfl rfl <| C.a1 S16 (D36 40 rfl) rfl rfl <| C.gl S16 (W H 99 rfl) (D36 41 rfl) 0 rfl 5 rfl fun T17 S17 => C.i2 S17 (D36 42 rfl) rfl <| C.iastore S17 6 rfl (D36 43 rfl) 134 rfl (by decide) 0 rfl (leD rfl) (0 : Int32) rfl fun T18 S18 => ?_
  replace S18 := S18.asL (L' := [(o, O3 Z (.ref bo) (.ref g0) (.ref l1) (.ref hm) (.ref l2) (.int 0) (.int 0)), (bo, Ary Z .byte ((.int 1) :: (.int 0) :: (.int 0) :: z13)), (g0, Ary Z (.array .int) [(.ref ga), (.ref gb), (.ref gc), (.ref gd), (.ref ge)]), (ga, Ary Z .int ((.int (-1)) :: (.int 0) :: (.int 0) :: z13)), (gb, Ary Z .int ((.int cp) :: (.int 0) :: (.int 0) :: z13)), (gc, Ary Z .int ((.int 0) :: (.int 0) :: (.int 0) :: z13)), (gd, Ary Z .int ((.int 0) :: (.int 0) :: (.int 0) :: z13)), (ge, Ary Z .int ((.int 0) :: (.int 0) :: (.int 0) :: z13))]) rfl
  refine C.a1 S18 (D36 44 rfl) rfl rfl <| C.gl S18 (W H 42 rfl) (D36 45 rfl) 0 rfl 1 rfl fun T19 S19 => C.k1 S19 (D36 46 rfl) 4 rfl <| C.aaload S19 (S19.at 2 rfl) rfl (D36 47 rfl) 140 rfl (by decide) 4 rfl rfl <| C.a1 S19 (D36 48 rfl) rfl rfl <| C.gl S19 (W H 99 rfl) (D36 49 rfl) 0 rfl 5 rfl fun T20 S20 => C.i2 S20 (D36 50 rfl) rfl <| C.iastore S20 7 rfl (D36 51 rfl) 147 rfl (by decide) 0 rfl (leD rfl) (0 : Int32) rfl fun T21 S21 => C.a1 S21 (D36 52 rfl) rfl rfl <| C.dup S21 (D36 53 rfl) 149 rfl rfl <| C.gl S21 (W H 99 rfl) (D36 54 rfl) 0 rfl 5 rfl fun T22 S22 => C.dupX1 S22 (D36 55 rfl) 153 rfl rfl rfl <| C.k1 S22 (D36 56 rfl) 1 rfl <| C.iadd S22 (D36 57 rfl) 155 rfl (1 : Int32) (by decide) <| C.putfield S22 (host := "") (Or.inl (W H 99 rfl)) Via.refl (D36 58 rfl) 0 rfl 5 rfl (Or.inl (W H 100 rfl)) (W H 31 rfl) (ty := .int) (by decide) rfl rfl 158 rfl fun T23 S23 => ?_
  exact C.rI S23 (D36 59 rfl) [0, 1, 2, 3, 4, 5, 6, 7] ⟨rfl, rfl, rfl⟩
theorem nodeE1 (H : Hy a0 Z cst dce nona sfv) (o bo g0 l1 hm l2 ga gb gc gd ge : Addr) (cp : Int32) :
    Con lch Z consts_1 Y36 prog_28_method_32_code 8 (some .int) (rm 0 0 0 0) #[(.ref o), (.int 21), (.int 0), (.int 0), (.int 0), (.int 0)] [(o, O3 Z (.ref bo) (.ref g0) (.ref l1) (.ref hm) (.ref l2) (.int 1) (.int 0)), (bo, Ary Z .byte ((.int 1) :: (.int 0) :: (.int 0) :: z13)), (g0, Ary Z (.array .int) [(.ref ga), (.ref gb), (.ref gc), (.ref gd), (.ref ge)]), (ga, Ary Z .int ((.int (-1)) :: (.int 0) :: (.int 0) :: z13)), (gb, Ary Z .int ((.int cp) :: (.int 0) :: (.int 0) :: z13)), (gc, Ary Z .int ((.int 0) :: (.int 0) :: (.int 0) :: z13)), (gd, Ary Z .int ((.int 0) :: (.int 0) :: (.int 0) :: z13)), (ge, Ary Z .int ((.int 0) :: (.int 0) :: (.int 0) :: z13))] []
      (fun rv L1 M1 => rv = some (.int 1) ∧ L1 = [(o, O3 Z (.ref bo) (.ref g0) (.ref l1) (.ref hm) (.ref l2) (.int 2) (.int 0)), (bo, Ary Z .byte ((.int 1) :: (.int 21) :: (.int 0) :: z13)), (g0, Ary Z (.array .int) [(.ref ga), (.ref gb), (.ref gc), (.ref gd), (.ref ge)]), (ga, Ary Z .int ((.int (-1)) :: (.int (-1)) :: (.int 0) :: z13)), (gb, Ary Z .int ((.int cp) :: (.int 0) :: (.int 0) :: z13)), (gc, Ary Z .int ((.int 0) :: (.int 0) :: (.int 0) :: z13)), (gd, Ary Z .int ((.int 0) :: (.int 0) :: (.int 0) :: z13)), (ge, Ary Z .int ((.int 0) :: (.int 0) :: (.int 0) :: z13))] ∧ M1 = []) := by
  refine Con.ob #[vr o, vi 21, vi 0, vi 0, vi 0, vi 0, us, us] (plainFor_of_name pn11) ?_
  intro p e s m below meth c T0 h0 C S0
  refine C.a1 S0 (D36 0 rfl) rfl rfl <| C.gl S0 (W H 99 rfl) (D36 1 rfl) 0 rfl 5 rfl fun T1 S1 => C.a1 S1 (D36 2 rfl) rfl rfl <| C.gl S1 (W H 37 rfl) (D36 3 rfl) 0 rfl 0 rfl fun T2 S2 => C.arraylength S2 (S2.at 1 rfl) (D36 4 rfl) 9 rfl (16 : Int32) rfl <| C.icmp_neT S2 (D36 5 rfl) 75 rfl (by decide) <| C.a1 S2 (D36 6 rfl) rfl rfl <| C.gl S2 (W H 37 rfl) (D36 7 rfl) 0 rfl 0 rfl fun T4 S4 => C.a1 S4 (D36 8 rfl) rfl rfl <| C.gl S4 (W H 99 rfl) (D36 9 rfl) 0 rfl 5 rfl fun T5 S5 => C.i1 S5 (D36 10 rfl) rfl <| C.bastore S5 1 rfl (D36 11 rfl) 85 rfl (by decide) 1 rfl (leD rfl) (21 : Int32) (by decide) fun T6 S6 => C.a1 S6 (D36 12 rfl) rfl rfl <| C.gl S6 (W H 42 rfl) (D36 13 rfl) 0 rfl 1 rfl fun T7 S7 => C.k1 S7 (D36 14 rfl) 0 rfl <| C.aaload S7 (S7.at 2 rfl) rfl (D36 15 rfl) 91 rfl (by decide) 0 rfl rfl <| C.a1 S7 (D36 16 rfl) rfl rfl <| C.gl S7 (W H 99 rfl) (D36 17 rfl) 0 rfl 5 rfl fun T8 S8 => ?_
  refine C.k1 S8 (D36 18 rfl) (-1) rfl <| C.iastore S8 3 rfl (D36 19 rfl) 97 rfl (by decide) 1 rfl (leD rfl) (-1 : Int32) rfl fun T9 S9 => C.a1 S9 (D36 20 rfl) rfl rfl <| C.gl S9 (W H 42 rfl) (D36 21 rfl) 0 rfl 1 rfl fun T10 S10 => C.k1 S10 (D36 22 rfl) 1 rfl <| C.aaload S10 (S10.at 2 rfl) rfl (D36 23 rfl) 103 rfl (by decide) 1 rfl rfl <| C.a1 S10 (D36 24 rfl) rfl rfl <| C.gl S10 (W H 99 rfl) (D36 25 rfl) 0 rfl 5 rfl fun T11 S11 => C.i1 S11 (D36 26 rfl) rfl <| C.iastore S11 4 rfl (D36 27 rfl) 109 rfl (by decide) 1 rfl (leD rfl) (0 : Int32) rfl fun T12 S12 => C.a1 S12 (D36 28 rfl) rfl rfl <| C.gl S12 (W H 42 rfl) (D36 29 rfl) 0 rfl 1 rfl fun T13 S13 => C.k1 S13 (D36 30 rfl) 2 rfl <| C.aaload S13 (S13.at 2 rfl) rfl (D36 31 rfl) 115 rfl (by decide) 2 rfl rfl <| C.a1 S13 (D36 32 rfl) rfl rfl <| C.gl S13 (W H 99 rfl) (D36 33 rfl) 0 rfl 5 rfl fun T14 S14 => C.i1 S14 (D36 34 rfl) rfl <| C.iastore S14 5 rfl (D36 35 rfl) 121 rfl (by decide) 1 rfl (leD rfl) (0 : Int32) rfl fun T15 S15 => ?_
  refine C.a1 S15 (D36 36 rfl) rfl rfl <| C.gl S15 (W H 42 rfl) (D36 37 rfl) 0 rfl 1 rfl fun T16 S16 => C.k1 S16 (D36 38 rfl) 3 rfl <| C.aaload S16 (S16.at 2 rfl) rfl (D36 39 rfl) 127 rfl (by decide) 3 rfl rfl <| C.a1 S16 (D36 40 rfl) rfl rfl <| C.gl S16 (W H 99 rfl) (D36 41 rfl) 0 rfl 5 rfl fun T17 S17 => C.i2 S17 (D36 42 rfl) rfl <| C.iastore S17 6 rfl (D36 43 rfl) 134 rfl (by decide) 1 rfl (leD rfl) (0 : Int32) rfl fun T18 S18 => ?_
  replace S18 := S18.asL (L' := [(o, O3 Z (.ref bo) (.ref g0) (.ref l1) (.ref hm) (.ref l2) (.int 1) (.int 0)), (bo, Ary Z .byte ((.int 1) :: (.int 21) :: (.int 0) :: z13)), (g0, Ary Z (.array .int) [(.ref ga), (.ref gb), (.ref gc), (.ref gd), (.ref ge)]), (ga, Ary Z .int ((.int (-1)) :: (.int (-1)) :: (.int 0) :: z13)), (gb, Ary Z .int ((.int cp) :: (.int 0) :: (.int 0) :: z13)), (gc, Ary Z .int ((.int 0) :: (.int 0) :: (.int 0) :: z13)), (gd, Ary Z .int ((.int 0) :: (.int 0) :: (.int 0) :: z13)), (ge, Ary Z .int ((.int 0) :: (.int 0) :: (.int 0) :: z13))]) rfl
  refine C.a1 S18 (D36 44 rfl) rfl rfl <| C.gl S18 (W H 42 rfl) (D36 45 rfl) 0 rfl 1 rfl fun T19 S19 => C.k1 S19 (D36 46 rfl) 4 rfl <| C.aaload S19 (S19.at 2 rfl) rfl (D36 47 rfl) 140 rfl (by decide) 4 rfl rfl <| C.a1 S19 (D36 48 rfl) rfl rfl <| C.gl S19 (W H 99 rfl) (D36 49 rfl) 0 rfl 5 rfl fun T20 S20 => C.i2 S20 (D36 50 rfl) rfl <| C.iastore S20 7 rfl (D36 51 rfl) 147 rfl (by decide) 1 rfl (leD rfl) (0 : Int32) rfl fun T21 S21 => C.a1 S21 (D36 52 rfl) rfl rfl <| C.dup S21 (D36 53 rfl) 149 rfl rfl <| C.gl S21 (W H 99 rfl) (D36 54 rfl) 0 rfl 5 rfl fun T22 S22 => C.dupX1 S22 (D36 55 rfl) 153 rfl rfl rfl <| C.k1 S22 (D36 56 rfl) 1 rfl <| C.iadd S22 (D36 57 rfl) 155 rfl (2 : Int32) (by decide) <| C.putfield S22 (host := "") (Or.inl (W H 99 rfl)) Via.refl (D36 58 rfl) 0 rfl 5 rfl (Or.inl (W H 100 rfl)) (W H 31 rfl) (ty := .int) (by decide) rfl rfl 158 rfl fun T23 S23 => ?_
  exact C.rI S23 (D36 59 rfl) [0, 1, 2, 3, 4, 5, 6, 7] ⟨rfl, rfl, rfl⟩
theorem nodeE2 (H : Hy a0 Z cst dce nona sfv) (o bo g0 l1 hm l2 ga gb gc gd ge : Addr) (cp kd : Int32) :
    Con lch Z consts_1 Y36 prog_28_method_32_code 8 (some .int) (rm 0 0 0 0) #[(.ref o), (.int 21), (.int 0), (.int 0), (.int 0), (.int 0)] [(o, O3 Z (.ref bo) (.ref g0) (.ref l1) (.ref hm) (.ref l2) (.int 2) (.int 0)), (bo, Ary Z .byte ((.int 1) :: (.int kd) :: (.int 0) :: z13)), (g0, Ary Z (.array .int) [(.ref ga), (.ref gb), (.ref gc), (.ref gd), (.ref ge)]), (ga, Ary Z .int ((.int (-1)) :: (.int (-1)) :: (.int 0) :: z13)), (gb, Ary Z .int ((.int cp) :: (.int ((-1 : Int32) - cp)) :: (.int 0) :: z13)), (gc, Ary Z .int ((.int 0) :: (.int 1) :: (.int 0) :: z13)), (gd, Ary Z .int ((.int 0) :: (.int 1) :: (.int 0) :: z13)), (ge, Ary Z .int ((.int 0) :: (.int 0) :: (.int 0) :: z13))] []
      (fun rv L1 M1 => rv = some (.int 2) ∧ L1 = [(o, O3 Z (.ref bo) (.ref g0) (.ref l1) (.ref hm) (.ref l2) (.int 3) (.int 0)), (bo, Ary Z .byte ((.int 1) :: (.int kd) :: (.int 21) :: z13)), (g0, Ary Z (.array .int) [(.ref ga), (.ref gb), (.ref gc), (.ref gd), (.ref ge)]), (ga, Ary Z .int ((.int (-1)) :: (.int (-1)) :: (.int (-1)) :: z13)), (gb, Ary Z .int ((.int cp) :: (.int ((-1 : Int32) - cp)) :: (.int 0) :: z13)), (gc, Ary Z .int ((.int 0) :: (.int 1) :: (.int 0) :: z13)), (gd, Ary Z .int ((.int 0) :: (.int 1) :: (.int 0) :: z13)), (ge, Ary Z .int ((.int 0) :: (.int 0) :: (.int 0) :: z13))] ∧ M1 = []) := by
  refine Con.ob #[vr o, vi 21, vi 0, vi 0, vi 0, vi 0, us, us] (plainFor_of_name pn11) ?_
  intro p e s m below meth c T0 h0 C S0
  refine C.a1 S0 (D36 0 rfl) rfl rfl <| C.gl S0 (W H 99 rfl) (D36 1 rfl) 0 rfl 5 rfl fun T1 S1 => C.a1 S1 (D36 2 rfl) rfl rfl <| C.gl S1 (W H 37 rfl) (D36 3 rfl) 0 rfl 0 rfl fun T2 S2 => C.arraylength S2 (S2.at 1 rfl) (D36 4 rfl) 9 rfl (16 : Int32) rfl <| C.icmp_neT S2 (D36 5 rfl) 75 rfl (by decide) <| C.a1 S2 (D36 6 rfl) rfl rfl <| C.gl S2 (W H 37 rfl) (D36 7 rfl) 0 rfl 0 rfl fun T4 S4 => C.a1 S4 (D36 8 rfl) rfl rfl <| C.gl S4 (W H 99 rfl) (D36 9 rfl) 0 rfl 5 rfl fun T5 S5 => C.i1 S5 (D36 10 rfl) rfl <| C.bastore S5 1 rfl (D36 11 rfl) 85 rfl (by decide) 2 rfl (leD rfl) (21 : Int32) (by decide) fun T6 S6 => C.a1 S6 (D36 12 rfl) rfl rfl <| C.gl S6 (W H 42 rfl) (D36 13 rfl) 0 rfl 1 rfl fun T7 S7 => C.k1 S7 (D36 14 rfl) 0 rfl <| C.aaload S7 (S7.at 2 rfl) rfl (D36 15 rfl) 91 rfl (by decide) 0 rfl rfl <| C.a1 S7 (D36 16 rfl) rfl rfl <| C.gl S7 (W H 99 rfl) (D36 17 rfl) 0 rfl 5 rfl fun T8 S8 => ?_
  refine C.k1 S8 (D36 18 rfl) (-1) rfl <| C.iastore S8 3 rfl (D36 19 rfl) 97 rfl (by decide) 2 rfl (leD rfl) (-1 : Int32) rfl fun T9 S9 => C.a1 S9 (D36 20 rfl) rfl rfl <| C.gl S9 (W H 42 rfl) (D36 21 rfl) 0 rfl 1 rfl fun T10 S10 => C.k1 S10 (D36 22 rfl) 1 rfl <| C.aaload S10 (S10.at 2 rfl) rfl (D36 23 rfl) 103 rfl (by decide) 1 rfl rfl <| C.a1 S10 (D36 24 rfl) rfl rfl <| C.gl S10 (W H 99 rfl) (D36 25 rfl) 0 rfl 5 rfl fun T11 S11 => C.i1 S11 (D36 26 rfl) rfl <| C.iastore S11 4 rfl (D36 27 rfl) 109 rfl (by decide) 2 rfl (leD rfl) (0 : Int32) rfl fun T12 S12 => C.a1 S12 (D36 28 rfl) rfl rfl <| C.gl S12 (W H 42 rfl) (D36 29 rfl) 0 rfl 1 rfl fun T13 S13 => C.k1 S13 (D36 30 rfl) 2 rfl <| C.aaload S13 (S13.at 2 rfl) rfl (D36 31 rfl) 115 rfl (by decide) 2 rfl rfl <| C.a1 S13 (D36 32 rfl) rfl rfl <| C.gl S13 (W H 99 rfl) (D36 33 rfl) 0 rfl 5 rfl fun T14 S14 => C.i1 S14 (D36 34 rfl) rfl <| C.iastore S14 5 rfl (D36 35 rfl) 121 rfl (by decide) 2 rfl (leD rfl) (0 : Int32) rfl fun T15 S15 => ?_
  refine C.a1 S15 (D36 36 rfl) rfl rfl <| C.gl S15 (W H 42 rfl) (D36 37 rfl) 0 rfl 1 rfl fun T16 S16 => C.k1 S16 (D36 38 rfl) 3 rfl <| C.aaload S16 (S16.at 2 rfl) rfl (D36 39 rfl) 127 rfl (by decide) 3 rfl rfl <| C.a1 S16 (D36 40 rfl) rfl rfl <| C.gl S16 (W H 99 rfl) (D36 41 rfl) 0 rfl 5 rfl fun T17 S17 => C.i2 S17 (D36 42 rfl) rfl <| C.iastore S17 6 rfl (D36 43 rfl) 134 rfl (by decide) 2 rfl (leD rfl) (0 : Int32) rfl fun T18 S18 => ?_
  replace S18 := S18.asL (L' := [(o, O3 Z (.ref bo) (.ref g0) (.ref l1) (.ref hm) (.ref l2) (.int 2) (.int 0)), (bo, Ary Z .byte ((.int 1) :: (.int kd) :: (.int 21) :: z13)), (g0, Ary Z (.array .int) [(.ref ga), (.ref gb), (.ref gc), (.ref gd), (.ref ge)]), (ga, Ary Z .int ((.int (-1)) :: (.int (-1)) :: (.int (-1)) :: z13)), (gb, Ary Z .int ((.int cp) :: (.int ((-1 : Int32) - cp)) :: (.int 0) :: z13)), (gc, Ary Z .int ((.int 0) :: (.int 1) :: (.int 0) :: z13)), (gd, Ary Z .int ((.int 0) :: (.int 1) :: (.int 0) :: z13)), (ge, Ary Z .int ((.int 0) :: (.int 0) :: (.int 0) :: z13))]) rfl
  refine C.a1 S18 (D36 44 rfl) rfl rfl <| C.gl S18 (W H 42 rfl) (D36 45 rfl) 0 rfl 1 rfl fun T19 S19 => C.k1 S19 (D36 46 rfl) 4 rfl <| C.aaload S19 (S19.at 2 rfl) rfl (D36 47 rfl) 140 rfl (by decide) 4 rfl rfl <| C.a1 S19 (D36 48 rfl) rfl rfl <| C.gl S19 (W H 99 rfl) (D36 49 rfl) 0 rfl 5 rfl fun T20 S20 => C.i2 S20 (D36 50 rfl) rfl <| C.iastore S20 7 rfl (D36 51 rfl) 147 rfl (by decide) 2 rfl (leD rfl) (0 : Int32) rfl fun T21 S21 => C.a1 S21 (D36 52 rfl) rfl rfl <| C.dup S21 (D36 53 rfl) 149 rfl rfl <| C.gl S21 (W H 99 rfl) (D36 54 rfl) 0 rfl 5 rfl fun T22 S22 => C.dupX1 S22 (D36 55 rfl) 153 rfl rfl rfl <| C.k1 S22 (D36 56 rfl) 1 rfl <| C.iadd S22 (D36 57 rfl) 155 rfl (3 : Int32) (by decide) <| C.putfield S22 (host := "") (Or.inl (W H 99 rfl)) Via.refl (D36 58 rfl) 0 rfl 5 rfl (Or.inl (W H 100 rfl)) (W H 31 rfl) (ty := .int) (by decide) rfl rfl 158 rfl fun T23 S23 => ?_
  exact C.rI S23 (D36 59 rfl) [0, 1, 2, 3, 4, 5, 6, 7] ⟨rfl, rfl, rfl⟩
theorem nodeR (H : Hy a0 Z cst dce nona sfv) (o bo g0 l1 hm l2 ga gb gc gd ge : Addr) (cp kd ax : Int32) (hk : kd = 6 ∨ kd = 7 ∨ kd = 8) :
    Con lch Z consts_1 Y36 prog_28_method_32_code 8 (some .int) (rm 0 0 0 0) #[(.ref o), (.int kd), (.int ax), (.int 1), (.int 1), (.int 0)] [(o, O3 Z (.ref bo) (.ref g0) (.ref l1) (.ref hm) (.ref l2) (.int 1) (.int 0)), (bo, Ary Z .byte ((.int 1) :: (.int 0) :: (.int 0) :: z13)), (g0, Ary Z (.array .int) [(.ref ga), (.ref gb), (.ref gc), (.ref gd), (.ref ge)]), (ga, Ary Z .int ((.int (-1)) :: (.int 0) :: (.int 0) :: z13)), (gb, Ary Z .int ((.int cp) :: (.int 0) :: (.int 0) :: z13)), (gc, Ary Z .int ((.int 0) :: (.int 0) :: (.int 0) :: z13)), (gd, Ary Z .int ((.int 0) :: (.int 0) :: (.int 0) :: z13)), (ge, Ary Z .int ((.int 0) :: (.int 0) :: (.int 0) :: z13))] []
      (fun rv L1 M1 => rv = some (.int 1) ∧ L1 = [(o, O3 Z (.ref bo) (.ref g0) (.ref l1) (.ref hm) (.ref l2) (.int 2) (.int 0)), (bo, Ary Z .byte ((.int 1) :: (.int kd) :: (.int 0) :: z13)), (g0, Ary Z (.array .int) [(.ref ga), (.ref gb), (.ref gc), (.ref gd), (.ref ge)]), (ga, Ary Z .int ((.int (-1)) :: (.int (-1)) :: (.int 0) :: z13)), (gb, Ary Z .int ((.int cp) :: (.int ax) :: (.int 0) :: z13)), (gc, Ary Z .int ((.int 0) :: (.int 1) :: (.int 0) :: z13)), (gd, Ary Z .int ((.int 0) :: (.int 1) :: (.int 0) :: z13)), (ge, Ary Z .int ((.int 0) :: (.int 0) :: (.int 0) :: z13))] ∧ M1 = []) := by
  refine Con.ob #[vr o, vi kd, vi ax, vi 1, vi 1, vi 0, us, us] (plainFor_of_name pn11) ?_
  intro p e s m below meth c T0 h0 C S0
  refine C.a1 S0 (D36 0 rfl) rfl rfl <| C.gl S0 (W H 99 rfl) (D36 1 rfl) 0 rfl 5 rfl fun T1 S1 => C.a1 S1 (D36 2 rfl) rfl rfl <| C.gl S1 (W H 37 rfl) (D36 3 rfl) 0 rfl 0 rfl fun T2 S2 => C.arraylength S2 (S2.at 1 rfl) (D36 4 rfl) 9 rfl (16 : Int32) rfl <| C.icmp_neT S2 (D36 5 rfl) 75 rfl (by decide) <| C.a1 S2 (D36 6 rfl) rfl rfl <| C.gl S2 (W H 37 rfl) (D36 7 rfl) 0 rfl 0 rfl fun T4 S4 => C.a1 S4 (D36 8 rfl) rfl rfl <| C.gl S4 (W H 99 rfl) (D36 9 rfl) 0 rfl 5 rfl fun T5 S5 => C.i1 S5 (D36 10 rfl) rfl <| C.bastore S5 1 rfl (D36 11 rfl) 85 rfl (by decide) 1 rfl (leD rfl) kd (kd_nar hk) fun T6 S6 => C.a1 S6 (D36 12 rfl) rfl rfl <| C.gl S6 (W H 42 rfl) (D36 13 rfl) 0 rfl 1 rfl fun T7 S7 => C.k1 S7 (D36 14 rfl) 0 rfl <| C.aaload S7 (S7.at 2 rfl) rfl (D36 15 rfl) 91 rfl (by decide) 0 rfl rfl <| C.a1 S7 (D36 16 rfl) rfl rfl <| C.gl S7 (W H 99 rfl) (D36 17 rfl) 0 rfl 5 rfl fun T8 S8 => ?_
  refine C.k1 S8 (D36 18 rfl) (-1) rfl <| C.iastore S8 3 rfl (D36 19 rfl) 97 rfl (by decide) 1 rfl (leD rfl) (-1 : Int32) rfl fun T9 S9 => C.a1 S9 (D36 20 rfl) rfl rfl <| C.gl S9 (W H 42 rfl) (D36 21 rfl) 0 rfl 1 rfl fun T10 S10 => C.k1 S10 (D36 22 rfl) 1 rfl <| C.aaload S10 (S10.at 2 rfl) rfl (D36 23 rfl) 103 rfl (by decide) 1 rfl rfl <| C.a1 S10 (D36 24 rfl) rfl rfl <| C.gl S10 (W H 99 rfl) (D36 25 rfl) 0 rfl 5 rfl fun T11 S11 => C.i1 S11 (D36 26 rfl) rfl <| C.iastore S11 4 rfl (D36 27 rfl) 109 rfl (by decide) 1 rfl (leD rfl) ax rfl fun T12 S12 => C.a1 S12 (D36 28 rfl) rfl rfl <| C.gl S12 (W H 42 rfl) (D36 29 rfl) 0 rfl 1 rfl fun T13 S13 => C.k1 S13 (D36 30 rfl) 2 rfl <| C.aaload S13 (S13.at 2 rfl) rfl (D36 31 rfl) 115 rfl (by decide) 2 rfl rfl <| C.a1 S13 (D36 32 rfl) rfl rfl <| C.gl S13 (W H 99 rfl) (D36 33 rfl) 0 rfl 5 rfl fun T14 S14 => C.i1 S14 (D36 34 rfl) rfl <| C.iastore S14 5 rfl (D36 35 rfl) 121 rfl (by decide) 1 rfl (leD rfl) (1 : Int32) rfl fun T15 S15 => ?_
  refine C.a1 S15 (D36 36 rfl) rfl rfl <| C.gl S15 (W H 42 rfl) (D36 37 rfl) 0 rfl 1 rfl fun T16 S16 => C.k1 S16 (D36 38 rfl) 3 rfl <| C.aaload S16 (S16.at 2 rfl) rfl (D36 39 rfl) 127 rfl (by decide) 3 rfl rfl <| C.a1 S16 (D36 40 rfl) rfl rfl <| C.gl S16 (W H 99 rfl) (D36 41 rfl) 0 rfl 5 rfl fun T17 S17 => C.i2 S17 (D36 42 rfl) rfl <| C.iastore S17 6 rfl (D36 43 rfl) 134 rfl (by decide) 1 rfl (leD rfl) (1 : Int32) rfl fun T18 S18 => ?_
  replace S18 := S18.asL (L' := [(o, O3 Z (.ref bo) (.ref g0) (.ref l1) (.ref hm) (.ref l2) (.int 1) (.int 0)), (bo, Ary Z .byte ((.int 1) :: (.int kd) :: (.int 0) :: z13)), (g0, Ary Z (.array .int) [(.ref ga), (.ref gb), (.ref gc), (.ref gd), (.ref ge)]), (ga, Ary Z .int ((.int (-1)) :: (.int (-1)) :: (.int 0) :: z13)), (gb, Ary Z .int ((.int cp) :: (.int ax) :: (.int 0) :: z13)), (gc, Ary Z .int ((.int 0) :: (.int 1) :: (.int 0) :: z13)), (gd, Ary Z .int ((.int 0) :: (.int 1) :: (.int 0) :: z13)), (ge, Ary Z .int ((.int 0) :: (.int 0) :: (.int 0) :: z13))]) rfl
  refine C.a1 S18 (D36 44 rfl) rfl rfl <| C.gl S18 (W H 42 rfl) (D36 45 rfl) 0 rfl 1 rfl fun T19 S19 => C.k1 S19 (D36 46 rfl) 4 rfl <| C.aaload S19 (S19.at 2 rfl) rfl (D36 47 rfl) 140 rfl (by decide) 4 rfl rfl <| C.a1 S19 (D36 48 rfl) rfl rfl <| C.gl S19 (W H 99 rfl) (D36 49 rfl) 0 rfl 5 rfl fun T20 S20 => C.i2 S20 (D36 50 rfl) rfl <| C.iastore S20 7 rfl (D36 51 rfl) 147 rfl (by decide) 1 rfl (leD rfl) (0 : Int32) rfl fun T21 S21 => C.a1 S21 (D36 52 rfl) rfl rfl <| C.dup S21 (D36 53 rfl) 149 rfl rfl <| C.gl S21 (W H 99 rfl) (D36 54 rfl) 0 rfl 5 rfl fun T22 S22 => C.dupX1 S22 (D36 55 rfl) 153 rfl rfl rfl <| C.k1 S22 (D36 56 rfl) 1 rfl <| C.iadd S22 (D36 57 rfl) 155 rfl (2 : Int32) (by decide) <| C.putfield S22 (host := "") (Or.inl (W H 99 rfl)) Via.refl (D36 58 rfl) 0 rfl 5 rfl (Or.inl (W H 100 rfl)) (W H 31 rfl) (ty := .int) (by decide) rfl rfl 158 rfl fun T23 S23 => ?_
  exact C.rI S23 (D36 59 rfl) [0, 1, 2, 3, 4, 5, 6, 7] ⟨rfl, rfl, rfl⟩
abbrev O4 (Z : State) (v0 : Value) (v1 : Value) (v2 : Value) (v3 : Value) (v4 : Value) (v5 : Value) (v6 : Value) (v7 : Value) (v8 : Value) : Cell → Prop := Obj Z "com/example/honest_errors/honesterrors/jsonschema/RegexAssembler$Fragment" [("com/example/honest_errors/honesterrors/jsonschema/RegexAssembler$Fragment", "entry", "I", v0), ("com/example/honest_errors/honesterrors/jsonschema/RegexAssembler$Fragment", "holes", "I", v1), ("com/example/honest_errors/honesterrors/jsonschema/RegexAssembler$Fragment", "lastHole", "I", v2), ("com/example/honest_errors/honesterrors/jsonschema/RegexAssembler$Fragment", "atom", "I", v3), ("com/example/honest_errors/honesterrors/jsonschema/RegexAssembler$Fragment", "deterministic", "Z", v4), ("com/example/honest_errors/honesterrors/jsonschema/RegexAssembler$Fragment", "minLength", "I", v5), ("com/example/honest_errors/honesterrors/jsonschema/RegexAssembler$Fragment", "maxLength", "I", v6), ("com/example/honest_errors/honesterrors/jsonschema/RegexAssembler$Fragment", "consumes", "Z", v7), ("com/example/honest_errors/honesterrors/jsonschema/RegexAssembler$Fragment", "lineEnding", "Z", v8)]
theorem pn12 : plainName "com/example/honest_errors/honesterrors/jsonschema/RegexAssembler$Fragment" = true := by first | (simp [plainName, overriddenIn]; done) | decide +kernel
theorem frInit (H : Hy a0 Z cst dce nona sfv) (f : Addr) :
    Con lch Z consts_1 Y37 prog_29_method_1_code 1 none (rm 1 0 0 12) #[(.ref f)] [(f, O4 Z (.int 0) (.int 0) (.int 0) (.int 0) (.int 0) (.int 0) (.int 0) (.int 0) (.int 0))] []
      (fun rv L1 M1 => rv = none ∧ L1 = [(f, O4 Z (.int (-1)) (.int (-1)) (.int (-1)) (.int (-2147483648)) (.int 1) (.int 0) (.int 0) (.int 0) (.int 0))] ∧ M1 = []) := by
  refine Con.ob #[vr f] (plainFor_of_name pn12) ?_
  intro p e s m below meth c T0 h0 C S0
  refine C.a1 S0 (D37 0 rfl) rfl rfl <| C.objInit S0 (W H 111 rfl) (W H 20 rfl) (W H 21 rfl) (D37 1 rfl) 4 rfl rfl (leD rfl) (leD rfl) fun T1 S1 => C.a1 S1 (D37 2 rfl) rfl rfl <| C.k1 S1 (D37 3 rfl) (-1) rfl <| C.putfield S1 (host := "") (Or.inl (W H 112 rfl)) Via.refl (D37 4 rfl) 0 rfl 0 rfl (Or.inl (W H 113 rfl)) (W H 106 rfl) (ty := .int) (by decide) rfl rfl 9 rfl fun T2 S2 => C.a1 S2 (D37 5 rfl) rfl rfl <| C.k1 S2 (D37 6 rfl) (-1) rfl <| C.putfield S2 (host := "") (Or.inl (W H 114 rfl)) Via.refl (D37 7 rfl) 0 rfl 1 rfl (Or.inl (W H 115 rfl)) (W H 106 rfl) (ty := .int) (by decide) rfl rfl 14 rfl fun T3 S3 => C.a1 S3 (D37 8 rfl) rfl rfl <| C.k1 S3 (D37 9 rfl) (-1) rfl <| C.putfield S3 (host := "") (Or.inl (W H 116 rfl)) Via.refl (D37 10 rfl) 0 rfl 2 rfl (Or.inl (W H 117 rfl)) (W H 106 rfl) (ty := .int) (by decide) rfl rfl 19 rfl fun T4 S4 => C.a1 S4 (D37 11 rfl) rfl rfl <| C.ldcInt S4 (W H 118 rfl) (D37 12 rfl) 22 rfl ?_
  refine C.putfield S4 (host := "") (Or.inl (W H 119 rfl)) Via.refl (D37 13 rfl) 0 rfl 3 rfl (Or.inl (W H 120 rfl)) (W H 106 rfl) (ty := .int) (by decide) rfl rfl 25 rfl fun T5 S5 => C.a1 S5 (D37 14 rfl) rfl rfl <| C.k1 S5 (D37 15 rfl) 1 rfl <| C.putfieldN S5 (W H 121 rfl) Via.refl (D37 16 rfl) 0 rfl 4 rfl (Or.inl (W H 122 rfl)) (W H 106 rfl) (ty := .boolean) (by decide) rfl rfl 30 rfl fun T6 S6 => ?_
  replace S6 := S6.asL (L' := [(f, O4 Z (.int (-1)) (.int (-1)) (.int (-1)) (.int (-2147483648)) (.int 1) (.int 0) (.int 0) (.int 0) (.int 0))]) rfl
  exact C.rV S6 (D37 17 rfl) [0] ⟨rfl, rfl, rfl⟩
theorem addH0 (H : Hy a0 Z cst dce nona sfv) (o bo g0 l1 hm l2 ga gb gc gd ge f : Addr) :
    Con lch Z consts_1 Y38 prog_28_method_36_code 3 none (rm 0 0 0 0) #[(.ref o), (.ref f), (.int 0)] [(o, O3 Z (.ref bo) (.ref g0) (.ref l1) (.ref hm) (.ref l2) (.int 1) (.int 0)), (g0, Ary Z (.array .int) [(.ref ga), (.ref gb), (.ref gc), (.ref gd), (.ref ge)]), (ga, Ary Z .int ((.int (-1)) :: (.int 0) :: (.int 0) :: z13)), (f, O4 Z (.int 0) (.int (-1)) (.int (-1)) (.int (-2147483648)) (.int 1) (.int 0) (.int 0) (.int 0) (.int 0))] []
      (fun rv L1 M1 => rv = none ∧ L1 = [(o, O3 Z (.ref bo) (.ref g0) (.ref l1) (.ref hm) (.ref l2) (.int 1) (.int 0)), (g0, Ary Z (.array .int) [(.ref ga), (.ref gb), (.ref gc), (.ref gd), (.ref ge)]), (ga, Ary Z .int ((.int (-1)) :: (.int 0) :: (.int 0) :: z13)), (f, O4 Z (.int 0) (.int 0) (.int 0) (.int (-2147483648)) (.int 1) (.int 0) (.int 0) (.int 0) (.int 0))] ∧ M1 = []) := by
  refine Con.ob #[vr o, vr f, vi 0] (plainFor_of_name pn11) ?_
  intro p e s m below meth c T0 h0 C S0
  refine C.i1 S0 (D38 0 rfl) rfl <| C.if_geT S0 (D38 1 rfl) 5 rfl (by decide) <| C.a1 S0 (D38 2 rfl) rfl rfl <| C.gl S0 (W H 42 rfl) (D38 3 rfl) 0 rfl 1 rfl fun T2 S2 => C.i1 S2 (D38 4 rfl) rfl <| C.k1 S2 (D38 5 rfl) 1 rfl <| C.iand S2 (D38 6 rfl) 12 rfl (0 : Int32) (by decide) <| C.aaload S2 (S2.at 1 rfl) rfl (D38 7 rfl) 13 rfl (by decide) 0 rfl rfl <| C.i1 S2 (D38 8 rfl) rfl <| C.k1 S2 (D38 9 rfl) 1 rfl <| C.ishr S2 (D38 10 rfl) 16 rfl (0 : Int32) (by decide) <| C.k1 S2 (D38 11 rfl) (-1) rfl <| C.iastore S2 2 rfl (D38 12 rfl) 18 rfl (by decide) 0 rfl (leD rfl) (-1 : Int32) rfl fun T3 S3 => C.a1 S3 (D38 13 rfl) rfl rfl <| C.getfieldR S3 (W H 128 rfl) (D38 14 rfl) (S3.fld 3 rfl 1 rfl) 22 rfl <| C.if_geF S3 (D38 15 rfl) 25 rfl (by decide) <| C.a1 S3 (D38 16 rfl) rfl rfl <| C.i1 S3 (D38 17 rfl) rfl <| C.putfieldR S3 (W H 128 rfl) (D38 18 rfl) 3 rfl 1 rfl (W H 115 rfl) (W H 106 rfl) (ty := .int) (by decide) rfl rfl 30 rfl fun T5 S5 => ?_
  refine C.g S5 (D38 19 rfl) 52 rfl <| C.a1 S5 (D38 20 rfl) rfl rfl <| C.i1 S5 (D38 21 rfl) rfl <| C.putfieldR S5 (W H 129 rfl) (D38 22 rfl) 3 rfl 2 rfl (W H 117 rfl) (W H 106 rfl) (ty := .int) (by decide) rfl rfl 57 rfl fun T6 S6 => ?_
  exact C.rV S6 (D38 23 rfl) [0, 1, 2, 3] ⟨rfl, rfl, rfl⟩
theorem layO4 {a0 : Array Value} {Z : State} (hw : Hw a0 Z) : LaidAll Z a0 "com/example/honest_errors/honesterrors/jsonschema/RegexAssembler$Fragment" [("com/example/honest_errors/honesterrors/jsonschema/RegexAssembler$Fragment", "entry", "I", .int), ("com/example/honest_errors/honesterrors/jsonschema/RegexAssembler$Fragment", "holes", "I", .int), ("com/example/honest_errors/honesterrors/jsonschema/RegexAssembler$Fragment", "lastHole", "I", .int), ("com/example/honest_errors/honesterrors/jsonschema/RegexAssembler$Fragment", "atom", "I", .int), ("com/example/honest_errors/honesterrors/jsonschema/RegexAssembler$Fragment", "deterministic", "Z", .boolean), ("com/example/honest_errors/honesterrors/jsonschema/RegexAssembler$Fragment", "minLength", "I", .int), ("com/example/honest_errors/honesterrors/jsonschema/RegexAssembler$Fragment", "maxLength", "I", .int), ("com/example/honest_errors/honesterrors/jsonschema/RegexAssembler$Fragment", "consumes", "Z", .boolean), ("com/example/honest_errors/honesterrors/jsonschema/RegexAssembler$Fragment", "lineEnding", "Z", .boolean)] := ⟨⟨Or.inl (W0 hw 113 rfl), by decide⟩, ⟨⟨Or.inl (W0 hw 115 rfl), by decide⟩, ⟨⟨Or.inl (W0 hw 117 rfl), by decide⟩, ⟨⟨Or.inl (W0 hw 120 rfl), by decide⟩, ⟨⟨Or.inl (W0 hw 122 rfl), by decide⟩, ⟨⟨Or.inl (W0 hw 131 rfl), by decide⟩, ⟨⟨Or.inl (W0 hw 133 rfl), by decide⟩, ⟨⟨Or.inl (W0 hw 135 rfl), by decide⟩, ⟨⟨Or.inl (W0 hw 451 rfl), by decide⟩, trivial⟩⟩⟩⟩⟩⟩⟩⟩⟩
theorem pd19 : parseMethodDescriptor "(Lcom/example/honest_errors/honesterrors/jsonschema/RegexAssembler$Fragment;I)V" = some ⟨[(.object "com/example/honest_errors/honesterrors/jsonschema/RegexAssembler$Fragment"), .int], none⟩ := by decide +kernel
theorem single0 (H : Hy a0 Z cst dce nona sfv) (o bo g0 l1 hm l2 ga gb gc gd ge : Addr) :
    Con lch Z consts_1 Y40 prog_28_method_30_code 3 (Option.some (Jvm.ClassFile.FieldType.object "com/example/honest_errors/honesterrors/jsonschema/RegexAssembler$Fragment")) (rm 2 1 10 25) #[(.ref o), (.int 0)] [(o, O3 Z (.ref bo) (.ref g0) (.ref l1) (.ref hm) (.ref l2) (.int 1) (.int 0)), (g0, Ary Z (.array .int) [(.ref ga), (.ref gb), (.ref gc), (.ref gd), (.ref ge)]), (ga, Ary Z .int ((.int (-1)) :: (.int 0) :: (.int 0) :: z13))] []
      (fun rv L1 M1 => ∃ (f : Addr), rv = some (.ref f) ∧ L1 = [(o, O3 Z (.ref bo) (.ref g0) (.ref l1) (.ref hm) (.ref l2) (.int 1) (.int 0)), (g0, Ary Z (.array .int) [(.ref ga), (.ref gb), (.ref gc), (.ref gd), (.ref ge)]), (ga, Ary Z .int ((.int (-1)) :: (.int 0) :: (.int 0) :: z13)), (f, O4 Z (.int 0) (.int 0) (.int 0) (.int (-2147483648)) (.int 1) (.int 0) (.int 0) (.int 0) (.int 0))] ∧ M1 = []) := by
  refine Con.ob #[vr o, vi 0, us] (plainFor_of_name pn11) ?_
  intro p e s m below meth c T0 h0 C S0
  refine C.new S0 (W H 105 rfl) (W H 106 rfl) (W H 107 rfl) (D39 0 rfl) (layO4 H.1) (by decide) 3 rfl (leD rfl) (leD rfl) fun T1 b1 S1 => C.dup S1 (D39 1 rfl) 4 rfl rfl <| C.xr (a := b1) S1 (W H 108 rfl) (W H 109 rfl) (W H 107 rfl) (W H 110 rfl) (frInit H b1) (D39 2 rfl) pd18 [] [(.ref b1)] [3] rl0 ?_
  rintro T2 _ _ _ ⟨rfl, rfl, rfl⟩ hro2 S2
  replace S2 := S2.nc (L' := [(o, O3 Z (.ref bo) (.ref g0) (.ref l1) (.ref hm) (.ref l2) (.int 1) (.int 0)), (g0, Ary Z (.array .int) [(.ref ga), (.ref gb), (.ref gc), (.ref gd), (.ref ge)]), (ga, Ary Z .int ((.int (-1)) :: (.int 0) :: (.int 0) :: z13)), (b1, O4 Z (.int (-1)) (.int (-1)) (.int (-1)) (.int (-2147483648)) (.int 1) (.int 0) (.int 0) (.int 0) (.int 0))]) rfl
  refine C.astoreN S2 (D39 3 rfl) 8 rfl rfl #[vr o, vi 0, vr b1] rfl <| C.a1 S2 (D39 4 rfl) rfl rfl <| C.i1 S2 (D39 5 rfl) rfl <| C.putfieldR S2 (W H 123 rfl) (D39 6 rfl) 3 rfl 0 rfl (W H 113 rfl) (W H 106 rfl) (ty := .int) (by decide) rfl rfl 13 rfl fun T3 S3 => C.a1 S3 (D39 7 rfl) rfl rfl <| C.a1 S3 (D39 8 rfl) rfl rfl <| C.i1 S3 (D39 9 rfl) rfl <| C.k1 S3 (D39 10 rfl) 1 rfl <| C.ishl S3 (D39 11 rfl) 18 rfl (0 : Int32) (by decide) <| C.xp (y' := Y39) S3 (S3.exa 0 rfl) (W H 124 rfl) (W H 125 rfl) (W H 92 rfl) (W H 93 rfl) (W H 126 rfl) (W H 32 rfl) (W H 127 rfl) (addH0 H o bo g0 l1 hm l2 ga gb gc gd ge b1) (D39 12 rfl) pd19 [(.ref b1), (.int 0)] [] [0, 1, 2, 3] rl0 ?_
  rintro T4 _ _ _ ⟨rfl, rfl, rfl⟩ hro4 S4
  replace S4 := S4.nc (L' := [(o, O3 Z (.ref bo) (.ref g0) (.ref l1) (.ref hm) (.ref l2) (.int 1) (.int 0)), (g0, Ary Z (.array .int) [(.ref ga), (.ref gb), (.ref gc), (.ref gd), (.ref ge)]), (ga, Ary Z .int ((.int (-1)) :: (.int 0) :: (.int 0) :: z13)), (b1, O4 Z (.int 0) (.int 0) (.int 0) (.int (-2147483648)) (.int 1) (.int 0) (.int 0) (.int 0) (.int 0))]) rfl
  refine C.a1 S4 (D39 13 rfl) rfl rfl ?_
  exact C.rA S4 rfl rfl (D39 14 rfl) [0, 1, 2, 3] ⟨b1, rfl, rfl, rfl⟩
theorem addH1 (H : Hy a0 Z cst dce nona sfv) (o bo g0 l1 hm l2 ga gb gc gd ge f : Addr) :
    Con lch Z consts_1 Y38 prog_28_method_36_code 3 none (rm 0 0 0 0) #[(.ref o), (.ref f), (.int 2)] [(o, O3 Z (.ref bo) (.ref g0) (.ref l1) (.ref hm) (.ref l2) (.int 2) (.int 0)), (g0, Ary Z (.array .int) [(.ref ga), (.ref gb), (.ref gc), (.ref gd), (.ref ge)]), (ga, Ary Z .int ((.int (-1)) :: (.int (-1)) :: (.int 0) :: z13)), (f, O4 Z (.int 1) (.int (-1)) (.int (-1)) (.int (-2147483648)) (.int 1) (.int 0) (.int 0) (.int 0) (.int 0))] []
      (fun rv L1 M1 => rv = none ∧ L1 = [(o, O3 Z (.ref bo) (.ref g0) (.ref l1) (.ref hm) (.ref l2) (.int 2) (.int 0)), (g0, Ary Z (.array .int) [(.ref ga), (.ref gb), (.ref gc), (.ref gd), (.ref ge)]), (ga, Ary Z .int ((.int (-1)) :: (.int (-1)) :: (.int 0) :: z13)), (f, O4 Z (.int 1) (.int 2) (.int 2) (.int (-2147483648)) (.int 1) (.int 0) (.int 0) (.int 0) (.int 0))] ∧ M1 = []) := by
  refine Con.ob #[vr o, vr f, vi 2] (plainFor_of_name pn11) ?_
  intro p e s m below meth c T0 h0 C S0
  refine C.i1 S0 (D38 0 rfl) rfl <| C.if_geT S0 (D38 1 rfl) 5 rfl (by decide) <| C.a1 S0 (D38 2 rfl) rfl rfl <| C.gl S0 (W H 42 rfl) (D38 3 rfl) 0 rfl 1 rfl fun T2 S2 => C.i1 S2 (D38 4 rfl) rfl <| C.k1 S2 (D38 5 rfl) 1 rfl <| C.iand S2 (D38 6 rfl) 12 rfl (0 : Int32) (by decide) <| C.aaload S2 (S2.at 1 rfl) rfl (D38 7 rfl) 13 rfl (by decide) 0 rfl rfl <| C.i1 S2 (D38 8 rfl) rfl <| C.k1 S2 (D38 9 rfl) 1 rfl <| C.ishr S2 (D38 10 rfl) 16 rfl (1 : Int32) (by decide) <| C.k1 S2 (D38 11 rfl) (-1) rfl <| C.iastore S2 2 rfl (D38 12 rfl) 18 rfl (by decide) 1 rfl (leD rfl) (-1 : Int32) rfl fun T3 S3 => C.a1 S3 (D38 13 rfl) rfl rfl <| C.getfieldR S3 (W H 128 rfl) (D38 14 rfl) (S3.fld 3 rfl 1 rfl) 22 rfl <| C.if_geF S3 (D38 15 rfl) 25 rfl (by decide) <| C.a1 S3 (D38 16 rfl) rfl rfl <| C.i1 S3 (D38 17 rfl) rfl <| C.putfieldR S3 (W H 128 rfl) (D38 18 rfl) 3 rfl 1 rfl (W H 115 rfl) (W H 106 rfl) (ty := .int) (by decide) rfl rfl 30 rfl fun T5 S5 => ?_
  refine C.g S5 (D38 19 rfl) 52 rfl <| C.a1 S5 (D38 20 rfl) rfl rfl <| C.i1 S5 (D38 21 rfl) rfl <| C.putfieldR S5 (W H 129 rfl) (D38 22 rfl) 3 rfl 2 rfl (W H 117 rfl) (W H 106 rfl) (ty := .int) (by decide) rfl rfl 57 rfl fun T6 S6 => ?_
  exact C.rV S6 (D38 23 rfl) [0, 1, 2, 3] ⟨rfl, rfl, rfl⟩
theorem single1 (H : Hy a0 Z cst dce nona sfv) (o bo g0 l1 hm l2 ga gb gc gd ge : Addr) :
    Con lch Z consts_1 Y40 prog_28_method_30_code 3 (Option.some (Jvm.ClassFile.FieldType.object "com/example/honest_errors/honesterrors/jsonschema/RegexAssembler$Fragment")) (rm 2 1 10 25) #[(.ref o), (.int 1)] [(o, O3 Z (.ref bo) (.ref g0) (.ref l1) (.ref hm) (.ref l2) (.int 2) (.int 0)), (g0, Ary Z (.array .int) [(.ref ga), (.ref gb), (.ref gc), (.ref gd), (.ref ge)]), (ga, Ary Z .int ((.int (-1)) :: (.int (-1)) :: (.int 0) :: z13))] []
      (fun rv L1 M1 => ∃ (f : Addr), rv = some (.ref f) ∧ L1 = [(o, O3 Z (.ref bo) (.ref g0) (.ref l1) (.ref hm) (.ref l2) (.int 2) (.int 0)), (g0, Ary Z (.array .int) [(.ref ga), (.ref gb), (.ref gc), (.ref gd), (.ref ge)]), (ga, Ary Z .int ((.int (-1)) :: (.int (-1)) :: (.int 0) :: z13)), (f, O4 Z (.int 1) (.int 2) (.int 2) (.int (-2147483648)) (.int 1) (.int 0) (.int 0) (.int 0) (.int 0))] ∧ M1 = []) := by
  refine Con.ob #[vr o, vi 1, us] (plainFor_of_name pn11) ?_
  intro p e s m below meth c T0 h0 C S0
  refine C.new S0 (W H 105 rfl) (W H 106 rfl) (W H 107 rfl) (D39 0 rfl) (layO4 H.1) (by decide) 3 rfl (leD rfl) (leD rfl) fun T1 b1 S1 => C.dup S1 (D39 1 rfl) 4 rfl rfl <| C.xr (a := b1) S1 (W H 108 rfl) (W H 109 rfl) (W H 107 rfl) (W H 110 rfl) (frInit H b1) (D39 2 rfl) pd18 [] [(.ref b1)] [3] rl0 ?_
  rintro T2 _ _ _ ⟨rfl, rfl, rfl⟩ hro2 S2
  replace S2 := S2.nc (L' := [(o, O3 Z (.ref bo) (.ref g0) (.ref l1) (.ref hm) (.ref l2) (.int 2) (.int 0)), (g0, Ary Z (.array .int) [(.ref ga), (.ref gb), (.ref gc), (.ref gd), (.ref ge)]), (ga, Ary Z .int ((.int (-1)) :: (.int (-1)) :: (.int 0) :: z13)), (b1, O4 Z (.int (-1)) (.int (-1)) (.int (-1)) (.int (-2147483648)) (.int 1) (.int 0) (.int 0) (.int 0) (.int 0))]) rfl
  refine C.astoreN S2 (D39 3 rfl) 8 rfl rfl #[vr o, vi 1, vr b1] rfl <| C.a1 S2 (D39 4 rfl) rfl rfl <| C.i1 S2 (D39 5 rfl) rfl <| C.putfieldR S2 (W H 123 rfl) (D39 6 rfl) 3 rfl 0 rfl (W H 113 rfl) (W H 106 rfl) (ty := .int) (by decide) rfl rfl 13 rfl fun T3 S3 => C.a1 S3 (D39 7 rfl) rfl rfl <| C.a1 S3 (D39 8 rfl) rfl rfl <| C.i1 S3 (D39 9 rfl) rfl <| C.k1 S3 (D39 10 rfl) 1 rfl <| C.ishl S3 (D39 11 rfl) 18 rfl (2 : Int32) (by decide) <| C.xp (y' := Y39) S3 (S3.exa 0 rfl) (W H 124 rfl) (W H 125 rfl) (W H 92 rfl) (W H 93 rfl) (W H 126 rfl) (W H 32 rfl) (W H 127 rfl) (addH1 H o bo g0 l1 hm l2 ga gb gc gd ge b1) (D39 12 rfl) pd19 [(.ref b1), (.int 2)] [] [0, 1, 2, 3] rl0 ?_
  rintro T4 _ _ _ ⟨rfl, rfl, rfl⟩ hro4 S4
  replace S4 := S4.nc (L' := [(o, O3 Z (.ref bo) (.ref g0) (.ref l1) (.ref hm) (.ref l2) (.int 2) (.int 0)), (g0, Ary Z (.array .int) [(.ref ga), (.ref gb), (.ref gc), (.ref gd), (.ref ge)]), (ga, Ary Z .int ((.int (-1)) :: (.int (-1)) :: (.int 0) :: z13)), (b1, O4 Z (.int 1) (.int 2) (.int 2) (.int (-2147483648)) (.int 1) (.int 0) (.int 0) (.int 0) (.int 0))]) rfl
  refine C.a1 S4 (D39 13 rfl) rfl rfl ?_
  exact C.rA S4 rfl rfl (D39 14 rfl) [0, 1, 2, 3] ⟨b1, rfl, rfl, rfl⟩
theorem pd20 : parseMethodDescriptor "(BIIII)I" = some ⟨[.byte, .int, .int, .int, .int], some .int⟩ := by decide +kernel
theorem pd21 : parseMethodDescriptor "(I)Lcom/example/honest_errors/honesterrors/jsonschema/RegexAssembler$Fragment;" = some ⟨[.int], some (.object "com/example/honest_errors/honesterrors/jsonschema/RegexAssembler$Fragment")⟩ := by decide +kernel
theorem literalC (H : Hy a0 Z cst dce nona sfv) (o bo g0 l1 hm l2 ga gb gc gd ge : Addr) (cp : Int32) :
    Con lch Z consts_1 Y39 prog_28_method_3_code 3 (Option.some (Jvm.ClassFile.FieldType.object "com/example/honest_errors/honesterrors/jsonschema/RegexAssembler$Fragment")) (rm 3 1 10 39) #[(.ref o), (.int cp)] [(o, O3 Z (.ref bo) (.ref g0) (.ref l1) (.ref hm) (.ref l2) (.int 0) (.int 0)), (bo, Ary Z .byte ((.int 0) :: (.int 0) :: (.int 0) :: z13)), (g0, Ary Z (.array .int) [(.ref ga), (.ref gb), (.ref gc), (.ref gd), (.ref ge)]), (ga, Ary Z .int ((.int 0) :: (.int 0) :: (.int 0) :: z13)), (gb, Ary Z .int ((.int 0) :: (.int 0) :: (.int 0) :: z13)), (gc, Ary Z .int ((.int 0) :: (.int 0) :: (.int 0) :: z13)), (gd, Ary Z .int ((.int 0) :: (.int 0) :: (.int 0) :: z13)), (ge, Ary Z .int ((.int 0) :: (.int 0) :: (.int 0) :: z13))] []
      (fun rv L1 M1 => ∃ (f : Addr), rv = some (.ref f) ∧ L1 = [(o, O3 Z (.ref bo) (.ref g0) (.ref l1) (.ref hm) (.ref l2) (.int 1) (.int 0)), (bo, Ary Z .byte ((.int 1) :: (.int 0) :: (.int 0) :: z13)), (g0, Ary Z (.array .int) [(.ref ga), (.ref gb), (.ref gc), (.ref gd), (.ref ge)]), (ga, Ary Z .int ((.int (-1)) :: (.int 0) :: (.int 0) :: z13)), (gb, Ary Z .int ((.int cp) :: (.int 0) :: (.int 0) :: z13)), (gc, Ary Z .int ((.int 0) :: (.int 0) :: (.int 0) :: z13)), (gd, Ary Z .int ((.int 0) :: (.int 0) :: (.int 0) :: z13)), (ge, Ary Z .int ((.int 0) :: (.int 0) :: (.int 0) :: z13)), (f, O4 Z (.int 0) (.int 0) (.int 0) (.int ((-1 : Int32) - cp)) (.int 1) (.int 1) (.int 1) (.int 1) (.int 0))] ∧ M1 = []) := by
  refine Con.ob #[vr o, vi cp, us] (plainFor_of_name pn11) ?_
  intro p e s m below meth c T0 h0 C S0
  refine C.a1 S0 (D40 0 rfl) rfl rfl <| C.a1 S0 (D40 1 rfl) rfl rfl <| C.k1 S0 (D40 2 rfl) 1 rfl <| C.i1 S0 (D40 3 rfl) rfl <| C.k1 S0 (D40 4 rfl) 0 rfl <| C.k1 S0 (D40 5 rfl) 0 rfl <| C.k1 S0 (D40 6 rfl) 0 rfl <| C.xp (y' := Y39) S0 (S0.exa 0 rfl) (W H 95 rfl) (W H 96 rfl) (W H 92 rfl) (W H 93 rfl) (W H 97 rfl) (W H 32 rfl) (W H 98 rfl) (nodeL H o bo g0 l1 hm l2 ga gb gc gd ge cp) (D40 7 rfl) pd20 [(.int 1), (.int cp), (.int 0), (.int 0), (.int 0)] [(.ref o)] [0, 1, 2, 3, 4, 5, 6, 7] rl0 ?_
  rintro T1 _ _ _ ⟨rfl, rfl, rfl⟩ hro1 S1
  replace S1 := S1.nc (L' := [(o, O3 Z (.ref bo) (.ref g0) (.ref l1) (.ref hm) (.ref l2) (.int 1) (.int 0)), (bo, Ary Z .byte ((.int 1) :: (.int 0) :: (.int 0) :: z13)), (g0, Ary Z (.array .int) [(.ref ga), (.ref gb), (.ref gc), (.ref gd), (.ref ge)]), (ga, Ary Z .int ((.int (-1)) :: (.int 0) :: (.int 0) :: z13)), (gb, Ary Z .int ((.int cp) :: (.int 0) :: (.int 0) :: z13)), (gc, Ary Z .int ((.int 0) :: (.int 0) :: (.int 0) :: z13)), (gd, Ary Z .int ((.int 0) :: (.int 0) :: (.int 0) :: z13)), (ge, Ary Z .int ((.int 0) :: (.int 0) :: (.int 0) :: z13))]) rfl
  refine C.xp (y' := Y39) S1 (S1.exa 0 rfl) (W H 101 rfl) (W H 102 rfl) (W H 92 rfl) (W H 93 rfl) (W H 103 rfl) (W H 32 rfl) (W H 104 rfl) (single0 H o bo g0 l1 hm l2 ga gb gc gd ge) (D40 8 rfl) pd21 [(.int 0)] [] [0, 2, 3] rl0 ?_
  rintro T2 _ _ _ ⟨f3, rfl, rfl, rfl⟩ hro2 S2
  replace S2 := S2.nc (L' := [(o, O3 Z (.ref bo) (.ref g0) (.ref l1) (.ref hm) (.ref l2) (.int 1) (.int 0)), (bo, Ary Z .byte ((.int 1) :: (.int 0) :: (.int 0) :: z13)), (g0, Ary Z (.array .int) [(.ref ga), (.ref gb), (.ref gc), (.ref gd), (.ref ge)]), (ga, Ary Z .int ((.int (-1)) :: (.int 0) :: (.int 0) :: z13)), (gb, Ary Z .int ((.int cp) :: (.int 0) :: (.int 0) :: z13)), (gc, Ary Z .int ((.int 0) :: (.int 0) :: (.int 0) :: z13)), (gd, Ary Z .int ((.int 0) :: (.int 0) :: (.int 0) :: z13)), (ge, Ary Z .int ((.int 0) :: (.int 0) :: (.int 0) :: z13)), (f3, O4 Z (.int 0) (.int 0) (.int 0) (.int (-2147483648)) (.int 1) (.int 0) (.int 0) (.int 0) (.int 0))]) rfl
  refine C.astoreN S2 (D40 9 rfl) 14 rfl rfl #[vr o, vi cp, vr f3] rfl <| C.a1 S2 (D40 10 rfl) rfl rfl <| C.k1 S2 (D40 11 rfl) 1 rfl <| C.putfieldR S2 (W H 130 rfl) (D40 12 rfl) 8 rfl 5 rfl (W H 131 rfl) (W H 106 rfl) (ty := .int) (by decide) rfl rfl 19 rfl fun T4 S4 => C.a1 S4 (D40 13 rfl) rfl rfl <| C.k1 S4 (D40 14 rfl) 1 rfl <| C.putfieldR S4 (W H 132 rfl) (D40 15 rfl) 8 rfl 6 rfl (W H 133 rfl) (W H 106 rfl) (ty := .int) (by decide) rfl rfl 24 rfl fun T5 S5 => C.a1 S5 (D40 16 rfl) rfl rfl <| C.k1 S5 (D40 17 rfl) 1 rfl <| C.putfieldR S5 (W H 134 rfl) (D40 18 rfl) 8 rfl 7 rfl (W H 135 rfl) (W H 106 rfl) (ty := .boolean) (by decide) rfl rfl 29 rfl fun T6 S6 => C.a1 S6 (D40 19 rfl) rfl rfl <| C.k1 S6 (D40 20 rfl) (-1) rfl <| C.i1 S6 (D40 21 rfl) rfl <| C.isub S6 (D40 22 rfl) 33 rfl ((-1 : Int32) - cp) rfl <| C.putfieldR S6 (W H 136 rfl) (D40 23 rfl) 8 rfl 3 rfl (W H 120 rfl) (W H 106 rfl) (ty := .int) (by decide) rfl rfl 36 rfl fun T7 S7 => ?_
  refine C.a1 S7 (D40 24 rfl) rfl rfl ?_
  exact C.rA S7 rfl rfl (D40 25 rfl) [0, 1, 2, 3, 4, 5, 6, 7, 8] ⟨f3, rfl, rfl, rfl⟩
theorem runQ0 (H : Hy a0 Z cst dce nona sfv) (o bo g0 l1 hm l2 ga gb gc gd ge : Addr) (cp : Int32) (f : Addr) :
    Con lch Z consts_1 Y41 prog_28_method_24_code 7 (Option.some (Jvm.ClassFile.FieldType.object "com/example/honest_errors/honesterrors/jsonschema/RegexAssembler$Fragment")) (rm 3 1 10 39) #[(.ref o), (.ref f), (.int 1), (.int 1), (.int 0)] [(o, O3 Z (.ref bo) (.ref g0) (.ref l1) (.ref hm) (.ref l2) (.int 1) (.int 0)), (bo, Ary Z .byte ((.int 1) :: (.int 0) :: (.int 0) :: z13)), (g0, Ary Z (.array .int) [(.ref ga), (.ref gb), (.ref gc), (.ref gd), (.ref ge)]), (ga, Ary Z .int ((.int (-1)) :: (.int 0) :: (.int 0) :: z13)), (gb, Ary Z .int ((.int cp) :: (.int 0) :: (.int 0) :: z13)), (gc, Ary Z .int ((.int 0) :: (.int 0) :: (.int 0) :: z13)), (gd, Ary Z .int ((.int 0) :: (.int 0) :: (.int 0) :: z13)), (ge, Ary Z .int ((.int 0) :: (.int 0) :: (.int 0) :: z13)), (f, O4 Z (.int 0) (.int 0) (.int 0) (.int ((-1 : Int32) - cp)) (.int 1) (.int 1) (.int 1) (.int 1) (.int 0))] []
      (fun rv L1 M1 => ∃ (g : Addr), rv = some (.ref g) ∧ L1 = [(o, O3 Z (.ref bo) (.ref g0) (.ref l1) (.ref hm) (.ref l2) (.int 2) (.int 0)), (bo, Ary Z .byte ((.int 1) :: (.int 6) :: (.int 0) :: z13)), (g0, Ary Z (.array .int) [(.ref ga), (.ref gb), (.ref gc), (.ref gd), (.ref ge)]), (ga, Ary Z .int ((.int (-1)) :: (.int (-1)) :: (.int 0) :: z13)), (gb, Ary Z .int ((.int cp) :: (.int ((-1 : Int32) - cp)) :: (.int 0) :: z13)), (gc, Ary Z .int ((.int 0) :: (.int 1) :: (.int 0) :: z13)), (gd, Ary Z .int ((.int 0) :: (.int 1) :: (.int 0) :: z13)), (ge, Ary Z .int ((.int 0) :: (.int 0) :: (.int 0) :: z13)), (f, O4 Z (.int 0) (.int 0) (.int 0) (.int ((-1 : Int32) - cp)) (.int 1) (.int 1) (.int 1) (.int 1) (.int 0)), (g, O4 Z (.int 1) (.int 2) (.int 2) (.int (-2147483648)) (.int 1) (.int 1) (.int 1) (.int 1) (.int 0))] ∧ M1 = []) := by
  refine Con.ob #[vr o, vr f, vi 1, vi 1, vi 0, us, us] (plainFor_of_name pn11) ?_
  intro p e s m below meth c T0 h0 C S0
  refine C.k2 S0 (D41 0 rfl) 6 rfl <| C.istore S0 (D41 1 rfl) 4 rfl #[vr o, vr f, vi 1, vi 1, vi 0, vi 6, us] rfl <| C.i2 S0 (D41 2 rfl) rfl <| C.k1 S0 (D41 3 rfl) 1 rfl <| C.icmp_neT S0 (D41 4 rfl) 17 rfl (by decide) <| C.i2 S0 (D41 5 rfl) rfl <| C.k1 S0 (D41 6 rfl) 2 rfl <| C.icmp_neT S0 (D41 7 rfl) 27 rfl (by decide) <| C.a1 S0 (D41 8 rfl) rfl rfl <| C.a1 S0 (D41 9 rfl) rfl rfl <| C.i2 S0 (D41 10 rfl) rfl <| C.a1 S0 (D41 11 rfl) rfl rfl <| C.getfieldR S0 (W H 136 rfl) (D41 12 rfl) (S0.fld 8 rfl 3 rfl) 35 rfl <| C.i1 S0 (D41 13 rfl) rfl <| C.i1 S0 (D41 14 rfl) rfl <| C.k1 S0 (D41 15 rfl) 0 rfl <| C.xp (y' := Y39) S0 (S0.exa 0 rfl) (W H 95 rfl) (W H 96 rfl) (W H 92 rfl) (W H 93 rfl) (W H 97 rfl) (W H 32 rfl) (W H 98 rfl) (nodeR H o bo g0 l1 hm l2 ga gb gc gd ge cp (6 : Int32) ((-1 : Int32) - cp) (Or.inl rfl)) (D41 16 rfl) pd20 [(.int 6), (.int ((-1 : Int32) - cp)), (.int 1), (.int 1), (.int 0)] [(.ref o)] [0, 1, 2, 3, 4, 5, 6, 7] rl0 ?_
  rintro T3 _ _ _ ⟨rfl, rfl, rfl⟩ hro3 S3
  replace S3 := S3.nc (L' := [(o, O3 Z (.ref bo) (.ref g0) (.ref l1) (.ref hm) (.ref l2) (.int 2) (.int 0)), (bo, Ary Z .byte ((.int 1) :: (.int 6) :: (.int 0) :: z13)), (g0, Ary Z (.array .int) [(.ref ga), (.ref gb), (.ref gc), (.ref gd), (.ref ge)]), (ga, Ary Z .int ((.int (-1)) :: (.int (-1)) :: (.int 0) :: z13)), (gb, Ary Z .int ((.int cp) :: (.int ((-1 : Int32) - cp)) :: (.int 0) :: z13)), (gc, Ary Z .int ((.int 0) :: (.int 1) :: (.int 0) :: z13)), (gd, Ary Z .int ((.int 0) :: (.int 1) :: (.int 0) :: z13)), (ge, Ary Z .int ((.int 0) :: (.int 0) :: (.int 0) :: z13)), (f, O4 Z (.int 0) (.int 0) (.int 0) (.int ((-1 : Int32) - cp)) (.int 1) (.int 1) (.int 1) (.int 1) (.int 0))]) rfl
  refine C.xp (y' := Y39) S3 (S3.exa 0 rfl) (W H 101 rfl) (W H 102 rfl) (W H 92 rfl) (W H 93 rfl) (W H 103 rfl) (W H 32 rfl) (W H 104 rfl) (single1 H o bo g0 l1 hm l2 ga gb gc gd ge) (D41 17 rfl) pd21 [(.int 1)] [] [0, 2, 3] rl0 ?_
  rintro T4 _ _ _ ⟨f5, rfl, rfl, rfl⟩ hro4 S4
  replace S4 := S4.nc (L' := [(o, O3 Z (.ref bo) (.ref g0) (.ref l1) (.ref hm) (.ref l2) (.int 2) (.int 0)), (bo, Ary Z .byte ((.int 1) :: (.int 6) :: (.int 0) :: z13)), (g0, Ary Z (.array .int) [(.ref ga), (.ref gb), (.ref gc), (.ref gd), (.ref ge)]), (ga, Ary Z .int ((.int (-1)) :: (.int (-1)) :: (.int 0) :: z13)), (gb, Ary Z .int ((.int cp) :: (.int ((-1 : Int32) - cp)) :: (.int 0) :: z13)), (gc, Ary Z .int ((.int 0) :: (.int 1) :: (.int 0) :: z13)), (gd, Ary Z .int ((.int 0) :: (.int 1) :: (.int 0) :: z13)), (ge, Ary Z .int ((.int 0) :: (.int 0) :: (.int 0) :: z13)), (f, O4 Z (.int 0) (.int 0) (.int 0) (.int ((-1 : Int32) - cp)) (.int 1) (.int 1) (.int 1) (.int 1) (.int 0)), (f5, O4 Z (.int 1) (.int 2) (.int 2) (.int (-2147483648)) (.int 1) (.int 0) (.int 0) (.int 0) (.int 0))]) rfl
  refine C.astore S4 (D41 18 rfl) 46 rfl rfl #[vr o, vr f, vi 1, vi 1, vi 0, vi 6, vr f5] rfl <| C.a2 S4 (D41 19 rfl) rfl rfl <| C.a1 S4 (D41 20 rfl) rfl rfl <| C.getfieldR S4 (W H 130 rfl) (D41 21 rfl) (S4.fld 8 rfl 5 rfl) 52 rfl <| C.i1 S4 (D41 22 rfl) rfl <| C.imul S4 (D41 23 rfl) 54 rfl (1 : Int32) (by decide) <| C.putfieldR S4 (W H 130 rfl) (D41 24 rfl) 9 rfl 5 rfl (W H 131 rfl) (W H 106 rfl) (ty := .int) (by decide) rfl rfl 57 rfl fun T6 S6 => C.a2 S6 (D41 25 rfl) rfl rfl <| C.a1 S6 (D41 26 rfl) rfl rfl <| C.getfieldR S6 (W H 132 rfl) (D41 27 rfl) (S6.fld 8 rfl 6 rfl) 63 rfl <| C.i1 S6 (D41 28 rfl) rfl <| C.imul S6 (D41 29 rfl) 65 rfl (1 : Int32) (by decide) <| C.putfieldR S6 (W H 132 rfl) (D41 30 rfl) 9 rfl 6 rfl (W H 133 rfl) (W H 106 rfl) (ty := .int) (by decide) rfl rfl 68 rfl fun T7 S7 => C.a2 S7 (D41 31 rfl) rfl rfl <| C.i1 S7 (D41 32 rfl) rfl <| C.if_leF S7 (D41 33 rfl) 74 rfl (by decide) ?_
  refine C.k1 S7 (D41 34 rfl) 1 rfl <| C.g S7 (D41 35 rfl) 79 rfl <| C.putfieldR S7 (W H 134 rfl) (D41 36 rfl) 9 rfl 7 rfl (W H 135 rfl) (W H 106 rfl) (ty := .boolean) (by decide) rfl rfl 82 rfl fun T9 S9 => C.a2 S9 (D41 37 rfl) rfl rfl <| C.i1 S9 (D41 38 rfl) rfl <| C.i1 S9 (D41 39 rfl) rfl <| C.icmp_neF S9 (D41 40 rfl) 89 rfl (by decide) <| C.k1 S9 (D41 41 rfl) 1 rfl <| C.g S9 (D41 42 rfl) 94 rfl <| C.putfieldR S9 (W H 420 rfl) (D41 43 rfl) 9 rfl 4 rfl (W H 122 rfl) (W H 106 rfl) (ty := .boolean) (by decide) rfl rfl 97 rfl fun T11 S11 => C.a2 S11 (D41 44 rfl) rfl rfl ?_
  exact C.rA S11 rfl rfl (D41 45 rfl) [0, 1, 2, 3, 4, 5, 6, 7, 8, 9] ⟨f5, rfl, rfl, rfl⟩
theorem pd22 : parseMethodDescriptor "(Lcom/example/honest_errors/honesterrors/jsonschema/RegexAssembler$Fragment;III)Lcom/example/honest_errors/honesterrors/jsonschema/RegexAssembler$Fragment;" = some ⟨[(.object "com/example/honest_errors/honesterrors/jsonschema/RegexAssembler$Fragment"), .int, .int, .int], some (.object "com/example/honest_errors/honesterrors/jsonschema/RegexAssembler$Fragment")⟩ := by decide +kernel
theorem quant0 (H : Hy a0 Z cst dce nona sfv) (o bo g0 l1 hm l2 ga gb gc gd ge : Addr) (cp : Int32) (f : Addr) (hcp : Cpt cp) :
    Con lch Z consts_1 Y42 prog_28_method_19_code 7 (Option.some (Jvm.ClassFile.FieldType.object "com/example/honest_errors/honesterrors/jsonschema/RegexAssembler$Fragment")) (rm 4 1 10 57) #[(.ref o), (.ref f), (.int 1), (.int 1), (.int 0)] [(o, O3 Z (.ref bo) (.ref g0) (.ref l1) (.ref hm) (.ref l2) (.int 1) (.int 0)), (bo, Ary Z .byte ((.int 1) :: (.int 0) :: (.int 0) :: z13)), (g0, Ary Z (.array .int) [(.ref ga), (.ref gb), (.ref gc), (.ref gd), (.ref ge)]), (ga, Ary Z .int ((.int (-1)) :: (.int 0) :: (.int 0) :: z13)), (gb, Ary Z .int ((.int cp) :: (.int 0) :: (.int 0) :: z13)), (gc, Ary Z .int ((.int 0) :: (.int 0) :: (.int 0) :: z13)), (gd, Ary Z .int ((.int 0) :: (.int 0) :: (.int 0) :: z13)), (ge, Ary Z .int ((.int 0) :: (.int 0) :: (.int 0) :: z13)), (f, O4 Z (.int 0) (.int 0) (.int 0) (.int ((-1 : Int32) - cp)) (.int 1) (.int 1) (.int 1) (.int 1) (.int 0))] []
      (fun rv L1 M1 => ∃ (g : Addr), rv = some (.ref g) ∧ L1 = [(o, O3 Z (.ref bo) (.ref g0) (.ref l1) (.ref hm) (.ref l2) (.int 2) (.int 0)), (bo, Ary Z .byte ((.int 1) :: (.int 6) :: (.int 0) :: z13)), (g0, Ary Z (.array .int) [(.ref ga), (.ref gb), (.ref gc), (.ref gd), (.ref ge)]), (ga, Ary Z .int ((.int (-1)) :: (.int (-1)) :: (.int 0) :: z13)), (gb, Ary Z .int ((.int cp) :: (.int ((-1 : Int32) - cp)) :: (.int 0) :: z13)), (gc, Ary Z .int ((.int 0) :: (.int 1) :: (.int 0) :: z13)), (gd, Ary Z .int ((.int 0) :: (.int 1) :: (.int 0) :: z13)), (ge, Ary Z .int ((.int 0) :: (.int 0) :: (.int 0) :: z13)), (f, O4 Z (.int 0) (.int 0) (.int 0) (.int ((-1 : Int32) - cp)) (.int 1) (.int 1) (.int 1) (.int 1) (.int 0)), (g, O4 Z (.int 1) (.int 2) (.int 2) (.int (-2147483648)) (.int 1) (.int 1) (.int 1) (.int 1) (.int 0))] ∧ M1 = []) := by
  refine Con.ob #[vr o, vr f, vi 1, vi 1, vi 0, us, us] (plainFor_of_name pn11) ?_
  intro p e s m below meth c T0 h0 C S0
  refine C.a1 S0 (D42 0 rfl) rfl rfl <| C.getfieldR S0 (W H 136 rfl) (D42 1 rfl) (S0.fld 8 rfl 3 rfl) 4 rfl <| C.ldcInt S0 (W H 415 rfl) (D42 2 rfl) 6 rfl <| C.icmp_eq S0 (D42 3 rfl) 23 9 (by decide) (by decide) rfl (fun hc1 => absurd hc1 (atom_ne hcp)) fun hc1 => C.a1 S0 (D42 4 rfl) rfl rfl <| C.a1 S0 (D42 5 rfl) rfl rfl <| C.i1 S0 (D42 6 rfl) rfl <| C.i1 S0 (D42 7 rfl) rfl <| C.i2 S0 (D42 8 rfl) rfl <| C.xp (y' := Y39) S0 (S0.exa 0 rfl) (W H 416 rfl) (W H 417 rfl) (W H 92 rfl) (W H 93 rfl) (W H 418 rfl) (W H 32 rfl) (W H 419 rfl) (runQ0 H o bo g0 l1 hm l2 ga gb gc gd ge cp f) (D42 9 rfl) pd22 [(.ref f), (.int 1), (.int 1), (.int 0)] [] [0, 1, 2, 3, 4, 5, 6, 7, 8] rl0 ?_
  rintro T2 _ _ _ ⟨g3, rfl, rfl, rfl⟩ hro2 S2
  replace S2 := S2.nc (L' := [(o, O3 Z (.ref bo) (.ref g0) (.ref l1) (.ref hm) (.ref l2) (.int 2) (.int 0)), (bo, Ary Z .byte ((.int 1) :: (.int 6) :: (.int 0) :: z13)), (g0, Ary Z (.array .int) [(.ref ga), (.ref gb), (.ref gc), (.ref gd), (.ref ge)]), (ga, Ary Z .int ((.int (-1)) :: (.int (-1)) :: (.int 0) :: z13)), (gb, Ary Z .int ((.int cp) :: (.int ((-1 : Int32) - cp)) :: (.int 0) :: z13)), (gc, Ary Z .int ((.int 0) :: (.int 1) :: (.int 0) :: z13)), (gd, Ary Z .int ((.int 0) :: (.int 1) :: (.int 0) :: z13)), (ge, Ary Z .int ((.int 0) :: (.int 0) :: (.int 0) :: z13)), (f, O4 Z (.int 0) (.int 0) (.int 0) (.int ((-1 : Int32) - cp)) (.int 1) (.int 1) (.int 1) (.int 1) (.int 0)), (g3, O4 Z (.int 1) (.int 2) (.int 2) (.int (-2147483648)) (.int 1) (.int 1) (.int 1) (.int 1) (.int 0))]) rfl
  refine C.astore S2 (D42 10 rfl) 20 rfl rfl #[vr o, vr f, vi 1, vi 1, vi 0, vr g3, us] rfl <| C.g S2 (D42 11 rfl) 161 rfl <| C.a2 S2 (D42 12 rfl) rfl rfl ?_
  exact C.rA S2 rfl rfl (D42 13 rfl) [0, 1, 2, 3, 4, 5, 6, 7, 8, 9] ⟨g3, rfl, rfl, rfl⟩
theorem runQ1 (H : Hy a0 Z cst dce nona sfv) (o bo g0 l1 hm l2 ga gb gc gd ge : Addr) (cp : Int32) (f : Addr) :
    Con lch Z consts_1 Y41 prog_28_method_24_code 7 (Option.some (Jvm.ClassFile.FieldType.object "com/example/honest_errors/honesterrors/jsonschema/RegexAssembler$Fragment")) (rm 3 1 10 39) #[(.ref o), (.ref f), (.int 1), (.int 1), (.int 1)] [(o, O3 Z (.ref bo) (.ref g0) (.ref l1) (.ref hm) (.ref l2) (.int 1) (.int 0)), (bo, Ary Z .byte ((.int 1) :: (.int 0) :: (.int 0) :: z13)), (g0, Ary Z (.array .int) [(.ref ga), (.ref gb), (.ref gc), (.ref gd), (.ref ge)]), (ga, Ary Z .int ((.int (-1)) :: (.int 0) :: (.int 0) :: z13)), (gb, Ary Z .int ((.int cp) :: (.int 0) :: (.int 0) :: z13)), (gc, Ary Z .int ((.int 0) :: (.int 0) :: (.int 0) :: z13)), (gd, Ary Z .int ((.int 0) :: (.int 0) :: (.int 0) :: z13)), (ge, Ary Z .int ((.int 0) :: (.int 0) :: (.int 0) :: z13)), (f, O4 Z (.int 0) (.int 0) (.int 0) (.int ((-1 : Int32) - cp)) (.int 1) (.int 1) (.int 1) (.int 1) (.int 0))] []
      (fun rv L1 M1 => ∃ (g : Addr), rv = some (.ref g) ∧ L1 = [(o, O3 Z (.ref bo) (.ref g0) (.ref l1) (.ref hm) (.ref l2) (.int 2) (.int 0)), (bo, Ary Z .byte ((.int 1) :: (.int 7) :: (.int 0) :: z13)), (g0, Ary Z (.array .int) [(.ref ga), (.ref gb), (.ref gc), (.ref gd), (.ref ge)]), (ga, Ary Z .int ((.int (-1)) :: (.int (-1)) :: (.int 0) :: z13)), (gb, Ary Z .int ((.int cp) :: (.int ((-1 : Int32) - cp)) :: (.int 0) :: z13)), (gc, Ary Z .int ((.int 0) :: (.int 1) :: (.int 0) :: z13)), (gd, Ary Z .int ((.int 0) :: (.int 1) :: (.int 0) :: z13)), (ge, Ary Z .int ((.int 0) :: (.int 0) :: (.int 0) :: z13)), (f, O4 Z (.int 0) (.int 0) (.int 0) (.int ((-1 : Int32) - cp)) (.int 1) (.int 1) (.int 1) (.int 1) (.int 0)), (g, O4 Z (.int 1) (.int 2) (.int 2) (.int (-2147483648)) (.int 1) (.int 1) (.int 1) (.int 1) (.int 0))] ∧ M1 = []) := by
  refine Con.ob #[vr o, vr f, vi 1, vi 1, vi 1, us, us] (plainFor_of_name pn11) ?_
  intro p e s m below meth c T0 h0 C S0
  refine C.k2 S0 (D41 0 rfl) 6 rfl <| C.istore S0 (D41 1 rfl) 4 rfl #[vr o, vr f, vi 1, vi 1, vi 1, vi 6, us] rfl <| C.i2 S0 (D41 2 rfl) rfl <| C.k1 S0 (D41 3 rfl) 1 rfl <| C.icmp_neF S0 (D41 4 rfl) 10 rfl (by decide) <| C.k2 S0 (D41 46 rfl) 7 rfl <| C.istore S0 (D41 47 rfl) 14 rfl #[vr o, vr f, vi 1, vi 1, vi 1, vi 7, us] rfl <| C.g S0 (D41 48 rfl) 27 rfl <| C.a1 S0 (D41 8 rfl) rfl rfl <| C.a1 S0 (D41 9 rfl) rfl rfl <| C.i2 S0 (D41 10 rfl) rfl <| C.a1 S0 (D41 11 rfl) rfl rfl <| C.getfieldR S0 (W H 136 rfl) (D41 12 rfl) (S0.fld 8 rfl 3 rfl) 35 rfl <| C.i1 S0 (D41 13 rfl) rfl <| C.i1 S0 (D41 14 rfl) rfl <| C.k1 S0 (D41 15 rfl) 0 rfl <| C.xp (y' := Y39) S0 (S0.exa 0 rfl) (W H 95 rfl) (W H 96 rfl) (W H 92 rfl) (W H 93 rfl) (W H 97 rfl) (W H 32 rfl) (W H 98 rfl) (nodeR H o bo g0 l1 hm l2 ga gb gc gd ge cp (7 : Int32) ((-1 : Int32) - cp) (Or.inr (Or.inl rfl))) (D41 16 rfl) pd20 [(.int 7), (.int ((-1 : Int32) - cp)), (.int 1), (.int 1), (.int 0)] [(.ref o)] [0, 1, 2, 3, 4, 5, 6, 7] rl0 ?_
  rintro T2 _ _ _ ⟨rfl, rfl, rfl⟩ hro2 S2
  replace S2 := S2.nc (L' := [(o, O3 Z (.ref bo) (.ref g0) (.ref l1) (.ref hm) (.ref l2) (.int 2) (.int 0)), (bo, Ary Z .byte ((.int 1) :: (.int 7) :: (.int 0) :: z13)), (g0, Ary Z (.array .int) [(.ref ga), (.ref gb), (.ref gc), (.ref gd), (.ref ge)]), (ga, Ary Z .int ((.int (-1)) :: (.int (-1)) :: (.int 0) :: z13)), (gb, Ary Z .int ((.int cp) :: (.int ((-1 : Int32) - cp)) :: (.int 0) :: z13)), (gc, Ary Z .int ((.int 0) :: (.int 1) :: (.int 0) :: z13)), (gd, Ary Z .int ((.int 0) :: (.int 1) :: (.int 0) :: z13)), (ge, Ary Z .int ((.int 0) :: (.int 0) :: (.int 0) :: z13)), (f, O4 Z (.int 0) (.int 0) (.int 0) (.int ((-1 : Int32) - cp)) (.int 1) (.int 1) (.int 1) (.int 1) (.int 0))]) rfl
  refine C.xp (y' := Y39) S2 (S2.exa 0 rfl) (W H 101 rfl) (W H 102 rfl) (W H 92 rfl) (W H 93 rfl) (W H 103 rfl) (W H 32 rfl) (W H 104 rfl) (single1 H o bo g0 l1 hm l2 ga gb gc gd ge) (D41 17 rfl) pd21 [(.int 1)] [] [0, 2, 3] rl0 ?_
  rintro T3 _ _ _ ⟨f4, rfl, rfl, rfl⟩ hro3 S3
  replace S3 := S3.nc (L' := [(o, O3 Z (.ref bo) (.ref g0) (.ref l1) (.ref hm) (.ref l2) (.int 2) (.int 0)), (bo, Ary Z .byte ((.int 1) :: (.int 7) :: (.int 0) :: z13)), (g0, Ary Z (.array .int) [(.ref ga), (.ref gb), (.ref gc), (.ref gd), (.ref ge)]), (ga, Ary Z .int ((.int (-1)) :: (.int (-1)) :: (.int 0) :: z13)), (gb, Ary Z .int ((.int cp) :: (.int ((-1 : Int32) - cp)) :: (.int 0) :: z13)), (gc, Ary Z .int ((.int 0) :: (.int 1) :: (.int 0) :: z13)), (gd, Ary Z .int ((.int 0) :: (.int 1) :: (.int 0) :: z13)), (ge, Ary Z .int ((.int 0) :: (.int 0) :: (.int 0) :: z13)), (f, O4 Z (.int 0) (.int 0) (.int 0) (.int ((-1 : Int32) - cp)) (.int 1) (.int 1) (.int 1) (.int 1) (.int 0)), (f4, O4 Z (.int 1) (.int 2) (.int 2) (.int (-2147483648)) (.int 1) (.int 0) (.int 0) (.int 0) (.int 0))]) rfl
  refine C.astore S3 (D41 18 rfl) 46 rfl rfl #[vr o, vr f, vi 1, vi 1, vi 1, vi 7, vr f4] rfl <| C.a2 S3 (D41 19 rfl) rfl rfl <| C.a1 S3 (D41 20 rfl) rfl rfl <| C.getfieldR S3 (W H 130 rfl) (D41 21 rfl) (S3.fld 8 rfl 5 rfl) 52 rfl <| C.i1 S3 (D41 22 rfl) rfl <| C.imul S3 (D41 23 rfl) 54 rfl (1 : Int32) (by decide) <| C.putfieldR S3 (W H 130 rfl) (D41 24 rfl) 9 rfl 5 rfl (W H 131 rfl) (W H 106 rfl) (ty := .int) (by decide) rfl rfl 57 rfl fun T5 S5 => C.a2 S5 (D41 25 rfl) rfl rfl <| C.a1 S5 (D41 26 rfl) rfl rfl <| C.getfieldR S5 (W H 132 rfl) (D41 27 rfl) (S5.fld 8 rfl 6 rfl) 63 rfl <| C.i1 S5 (D41 28 rfl) rfl <| C.imul S5 (D41 29 rfl) 65 rfl (1 : Int32) (by decide) <| C.putfieldR S5 (W H 132 rfl) (D41 30 rfl) 9 rfl 6 rfl (W H 133 rfl) (W H 106 rfl) (ty := .int) (by decide) rfl rfl 68 rfl fun T6 S6 => C.a2 S6 (D41 31 rfl) rfl rfl <| C.i1 S6 (D41 32 rfl) rfl <| C.if_leF S6 (D41 33 rfl) 74 rfl (by decide) ?_
  refine C.k1 S6 (D41 34 rfl) 1 rfl <| C.g S6 (D41 35 rfl) 79 rfl <| C.putfieldR S6 (W H 134 rfl) (D41 36 rfl) 9 rfl 7 rfl (W H 135 rfl) (W H 106 rfl) (ty := .boolean) (by decide) rfl rfl 82 rfl fun T8 S8 => C.a2 S8 (D41 37 rfl) rfl rfl <| C.i1 S8 (D41 38 rfl) rfl <| C.i1 S8 (D41 39 rfl) rfl <| C.icmp_neF S8 (D41 40 rfl) 89 rfl (by decide) <| C.k1 S8 (D41 41 rfl) 1 rfl <| C.g S8 (D41 42 rfl) 94 rfl <| C.putfieldR S8 (W H 420 rfl) (D41 43 rfl) 9 rfl 4 rfl (W H 122 rfl) (W H 106 rfl) (ty := .boolean) (by decide) rfl rfl 97 rfl fun T10 S10 => C.a2 S10 (D41 44 rfl) rfl rfl ?_
  exact C.rA S10 rfl rfl (D41 45 rfl) [0, 1, 2, 3, 4, 5, 6, 7, 8, 9] ⟨f4, rfl, rfl, rfl⟩
theorem quant1 (H : Hy a0 Z cst dce nona sfv) (o bo g0 l1 hm l2 ga gb gc gd ge : Addr) (cp : Int32) (f : Addr) (hcp : Cpt cp) :
    Con lch Z consts_1 Y42 prog_28_method_19_code 7 (Option.some (Jvm.ClassFile.FieldType.object "com/example/honest_errors/honesterrors/jsonschema/RegexAssembler$Fragment")) (rm 4 1 10 57) #[(.ref o), (.ref f), (.int 1), (.int 1), (.int 1)] [(o, O3 Z (.ref bo) (.ref g0) (.ref l1) (.ref hm) (.ref l2) (.int 1) (.int 0)), (bo, Ary Z .byte ((.int 1) :: (.int 0) :: (.int 0) :: z13)), (g0, Ary Z (.array .int) [(.ref ga), (.ref gb), (.ref gc), (.ref gd), (.ref ge)]), (ga, Ary Z .int ((.int (-1)) :: (.int 0) :: (.int 0) :: z13)), (gb, Ary Z .int ((.int cp) :: (.int 0) :: (.int 0) :: z13)), (gc, Ary Z .int ((.int 0) :: (.int 0) :: (.int 0) :: z13)), (gd, Ary Z .int ((.int 0) :: (.int 0) :: (.int 0) :: z13)), (ge, Ary Z .int ((.int 0) :: (.int 0) :: (.int 0) :: z13)), (f, O4 Z (.int 0) (.int 0) (.int 0) (.int ((-1 : Int32) - cp)) (.int 1) (.int 1) (.int 1) (.int 1) (.int 0))] []
      (fun rv L1 M1 => ∃ (g : Addr), rv = some (.ref g) ∧ L1 = [(o, O3 Z (.ref bo) (.ref g0) (.ref l1) (.ref hm) (.ref l2) (.int 2) (.int 0)), (bo, Ary Z .byte ((.int 1) :: (.int 7) :: (.int 0) :: z13)), (g0, Ary Z (.array .int) [(.ref ga), (.ref gb), (.ref gc), (.ref gd), (.ref ge)]), (ga, Ary Z .int ((.int (-1)) :: (.int (-1)) :: (.int 0) :: z13)), (gb, Ary Z .int ((.int cp) :: (.int ((-1 : Int32) - cp)) :: (.int 0) :: z13)), (gc, Ary Z .int ((.int 0) :: (.int 1) :: (.int 0) :: z13)), (gd, Ary Z .int ((.int 0) :: (.int 1) :: (.int 0) :: z13)), (ge, Ary Z .int ((.int 0) :: (.int 0) :: (.int 0) :: z13)), (f, O4 Z (.int 0) (.int 0) (.int 0) (.int ((-1 : Int32) - cp)) (.int 1) (.int 1) (.int 1) (.int 1) (.int 0)), (g, O4 Z (.int 1) (.int 2) (.int 2) (.int (-2147483648)) (.int 1) (.int 1) (.int 1) (.int 1) (.int 0))] ∧ M1 = []) := by
  refine Con.ob #[vr o, vr f, vi 1, vi 1, vi 1, us, us] (plainFor_of_name pn11) ?_
  intro p e s m below meth c T0 h0 C S0
  refine C.a1 S0 (D42 0 rfl) rfl rfl <| C.getfieldR S0 (W H 136 rfl) (D42 1 rfl) (S0.fld 8 rfl 3 rfl) 4 rfl <| C.ldcInt S0 (W H 415 rfl) (D42 2 rfl) 6 rfl <| C.icmp_eq S0 (D42 3 rfl) 23 9 (by decide) (by decide) rfl (fun hc1 => absurd hc1 (atom_ne hcp)) fun hc1 => C.a1 S0 (D42 4 rfl) rfl rfl <| C.a1 S0 (D42 5 rfl) rfl rfl <| C.i1 S0 (D42 6 rfl) rfl <| C.i1 S0 (D42 7 rfl) rfl <| C.i2 S0 (D42 8 rfl) rfl <| C.xp (y' := Y39) S0 (S0.exa 0 rfl) (W H 416 rfl) (W H 417 rfl) (W H 92 rfl) (W H 93 rfl) (W H 418 rfl) (W H 32 rfl) (W H 419 rfl) (runQ1 H o bo g0 l1 hm l2 ga gb gc gd ge cp f) (D42 9 rfl) pd22 [(.ref f), (.int 1), (.int 1), (.int 1)] [] [0, 1, 2, 3, 4, 5, 6, 7, 8] rl0 ?_
  rintro T2 _ _ _ ⟨g3, rfl, rfl, rfl⟩ hro2 S2
  replace S2 := S2.nc (L' := [(o, O3 Z (.ref bo) (.ref g0) (.ref l1) (.ref hm) (.ref l2) (.int 2) (.int 0)), (bo, Ary Z .byte ((.int 1) :: (.int 7) :: (.int 0) :: z13)), (g0, Ary Z (.array .int) [(.ref ga), (.ref gb), (.ref gc), (.ref gd), (.ref ge)]), (ga, Ary Z .int ((.int (-1)) :: (.int (-1)) :: (.int 0) :: z13)), (gb, Ary Z .int ((.int cp) :: (.int ((-1 : Int32) - cp)) :: (.int 0) :: z13)), (gc, Ary Z .int ((.int 0) :: (.int 1) :: (.int 0) :: z13)), (gd, Ary Z .int ((.int 0) :: (.int 1) :: (.int 0) :: z13)), (ge, Ary Z .int ((.int 0) :: (.int 0) :: (.int 0) :: z13)), (f, O4 Z (.int 0) (.int 0) (.int 0) (.int ((-1 : Int32) - cp)) (.int 1) (.int 1) (.int 1) (.int 1) (.int 0)), (g3, O4 Z (.int 1) (.int 2) (.int 2) (.int (-2147483648)) (.int 1) (.int 1) (.int 1) (.int 1) (.int 0))]) rfl
  refine C.astore S2 (D42 10 rfl) 20 rfl rfl #[vr o, vr f, vi 1, vi 1, vi 1, vr g3, us] rfl <| C.g S2 (D42 11 rfl) 161 rfl <| C.a2 S2 (D42 12 rfl) rfl rfl ?_
  exact C.rA S2 rfl rfl (D42 13 rfl) [0, 1, 2, 3, 4, 5, 6, 7, 8, 9] ⟨g3, rfl, rfl, rfl⟩
theorem runQ2 (H : Hy a0 Z cst dce nona sfv) (o bo g0 l1 hm l2 ga gb gc gd ge : Addr) (cp : Int32) (f : Addr) :
    Con lch Z consts_1 Y41 prog_28_method_24_code 7 (Option.some (Jvm.ClassFile.FieldType.object "com/example/honest_errors/honesterrors/jsonschema/RegexAssembler$Fragment")) (rm 3 1 10 39) #[(.ref o), (.ref f), (.int 1), (.int 1), (.int 2)] [(o, O3 Z (.ref bo) (.ref g0) (.ref l1) (.ref hm) (.ref l2) (.int 1) (.int 0)), (bo, Ary Z .byte ((.int 1) :: (.int 0) :: (.int 0) :: z13)), (g0, Ary Z (.array .int) [(.ref ga), (.ref gb), (.ref gc), (.ref gd), (.ref ge)]), (ga, Ary Z .int ((.int (-1)) :: (.int 0) :: (.int 0) :: z13)), (gb, Ary Z .int ((.int cp) :: (.int 0) :: (.int 0) :: z13)), (gc, Ary Z .int ((.int 0) :: (.int 0) :: (.int 0) :: z13)), (gd, Ary Z .int ((.int 0) :: (.int 0) :: (.int 0) :: z13)), (ge, Ary Z .int ((.int 0) :: (.int 0) :: (.int 0) :: z13)), (f, O4 Z (.int 0) (.int 0) (.int 0) (.int ((-1 : Int32) - cp)) (.int 1) (.int 1) (.int 1) (.int 1) (.int 0))] []
      (fun rv L1 M1 => ∃ (g : Addr), rv = some (.ref g) ∧ L1 = [(o, O3 Z (.ref bo) (.ref g0) (.ref l1) (.ref hm) (.ref l2) (.int 2) (.int 0)), (bo, Ary Z .byte ((.int 1) :: (.int 8) :: (.int 0) :: z13)), (g0, Ary Z (.array .int) [(.ref ga), (.ref gb), (.ref gc), (.ref gd), (.ref ge)]), (ga, Ary Z .int ((.int (-1)) :: (.int (-1)) :: (.int 0) :: z13)), (gb, Ary Z .int ((.int cp) :: (.int ((-1 : Int32) - cp)) :: (.int 0) :: z13)), (gc, Ary Z .int ((.int 0) :: (.int 1) :: (.int 0) :: z13)), (gd, Ary Z .int ((.int 0) :: (.int 1) :: (.int 0) :: z13)), (ge, Ary Z .int ((.int 0) :: (.int 0) :: (.int 0) :: z13)), (f, O4 Z (.int 0) (.int 0) (.int 0) (.int ((-1 : Int32) - cp)) (.int 1) (.int 1) (.int 1) (.int 1) (.int 0)), (g, O4 Z (.int 1) (.int 2) (.int 2) (.int (-2147483648)) (.int 1) (.int 1) (.int 1) (.int 1) (.int 0))] ∧ M1 = []) := by
  refine Con.ob #[vr o, vr f, vi 1, vi 1, vi 2, us, us] (plainFor_of_name pn11) ?_
  intro p e s m below meth c T0 h0 C S0
  refine C.k2 S0 (D41 0 rfl) 6 rfl <| C.istore S0 (D41 1 rfl) 4 rfl #[vr o, vr f, vi 1, vi 1, vi 2, vi 6, us] rfl <| C.i2 S0 (D41 2 rfl) rfl <| C.k1 S0 (D41 3 rfl) 1 rfl <| C.icmp_neT S0 (D41 4 rfl) 17 rfl (by decide) <| C.i2 S0 (D41 5 rfl) rfl <| C.k1 S0 (D41 6 rfl) 2 rfl <| C.icmp_neF S0 (D41 7 rfl) 23 rfl (by decide) <| C.k2 S0 (D41 49 rfl) 8 rfl <| C.istore S0 (D41 50 rfl) 27 rfl #[vr o, vr f, vi 1, vi 1, vi 2, vi 8, us] rfl <| C.a1 S0 (D41 8 rfl) rfl rfl <| C.a1 S0 (D41 9 rfl) rfl rfl <| C.i2 S0 (D41 10 rfl) rfl <| C.a1 S0 (D41 11 rfl) rfl rfl <| C.getfieldR S0 (W H 136 rfl) (D41 12 rfl) (S0.fld 8 rfl 3 rfl) 35 rfl <| C.i1 S0 (D41 13 rfl) rfl <| C.i1 S0 (D41 14 rfl) rfl <| C.k1 S0 (D41 15 rfl) 0 rfl <| C.xp (y' := Y39) S0 (S0.exa 0 rfl) (W H 95 rfl) (W H 96 rfl) (W H 92 rfl) (W H 93 rfl) (W H 97 rfl) (W H 32 rfl) (W H 98 rfl) (nodeR H o bo g0 l1 hm l2 ga gb gc gd ge cp (8 : Int32) ((-1 : Int32) - cp) (Or.inr (Or.inr rfl))) (D41 16 rfl) pd20 [(.int 8), (.int ((-1 : Int32) - cp)), (.int 1), (.int 1), (.int 0)] [(.ref o)] [0, 1, 2, 3, 4, 5, 6, 7] rl0 ?_
  rintro T3 _ _ _ ⟨rfl, rfl, rfl⟩ hro3 S3
  replace S3 := S3.nc (L' := [(o, O3 Z (.ref bo) (.ref g0) (.ref l1) (.ref hm) (.ref l2) (.int 2) (.int 0)), (bo, Ary Z .byte ((.int 1) :: (.int 8) :: (.int 0) :: z13)), (g0, Ary Z (.array .int) [(.ref ga), (.ref gb), (.ref gc), (.ref gd), (.ref ge)]), (ga, Ary Z .int ((.int (-1)) :: (.int (-1)) :: (.int 0) :: z13)), (gb, Ary Z .int ((.int cp) :: (.int ((-1 : Int32) - cp)) :: (.int 0) :: z13)), (gc, Ary Z .int ((.int 0) :: (.int 1) :: (.int 0) :: z13)), (gd, Ary Z .int ((.int 0) :: (.int 1) :: (.int 0) :: z13)), (ge, Ary Z .int ((.int 0) :: (.int 0) :: (.int 0) :: z13)), (f, O4 Z (.int 0) (.int 0) (.int 0) (.int ((-1 : Int32) - cp)) (.int 1) (.int 1) (.int 1) (.int 1) (.int 0))]) rfl
  refine C.xp (y' := Y39) S3 (S3.exa 0 rfl) (W H 101 rfl) (W H 102 rfl) (W H 92 rfl) (W H 93 rfl) (W H 103 rfl) (W H 32 rfl) (W H 104 rfl) (single1 H o bo g0 l1 hm l2 ga gb gc gd ge) (D41 17 rfl) pd21 [(.int 1)] [] [0, 2, 3] rl0 ?_
  rintro T4 _ _ _ ⟨f5, rfl, rfl, rfl⟩ hro4 S4
  replace S4 := S4.nc (L' := [(o, O3 Z (.ref bo) (.ref g0) (.ref l1) (.ref hm) (.ref l2) (.int 2) (.int 0)), (bo, Ary Z .byte ((.int 1) :: (.int 8) :: (.int 0) :: z13)), (g0, Ary Z (.array .int) [(.ref ga), (.ref gb), (.ref gc), (.ref gd), (.ref ge)]), (ga, Ary Z .int ((.int (-1)) :: (.int (-1)) :: (.int 0) :: z13)), (gb, Ary Z .int ((.int cp) :: (.int ((-1 : Int32) - cp)) :: (.int 0) :: z13)), (gc, Ary Z .int ((.int 0) :: (.int 1) :: (.int 0) :: z13)), (gd, Ary Z .int ((.int 0) :: (.int 1) :: (.int 0) :: z13)), (ge, Ary Z .int ((.int 0) :: (.int 0) :: (.int 0) :: z13)), (f, O4 Z (.int 0) (.int 0) (.int 0) (.int ((-1 : Int32) - cp)) (.int 1) (.int 1) (.int 1) (.int 1) (.int 0)), (f5, O4 Z (.int 1) (.int 2) (.int 2) (.int (-2147483648)) (.int 1) (.int 0) (.int 0) (.int 0) (.int 0))]) rfl
  refine C.astore S4 (D41 18 rfl) 46 rfl rfl #[vr o, vr f, vi 1, vi 1, vi 2, vi 8, vr f5] rfl <| C.a2 S4 (D41 19 rfl) rfl rfl <| C.a1 S4 (D41 20 rfl) rfl rfl <| C.getfieldR S4 (W H 130 rfl) (D41 21 rfl) (S4.fld 8 rfl 5 rfl) 52 rfl <| C.i1 S4 (D41 22 rfl) rfl <| C.imul S4 (D41 23 rfl) 54 rfl (1 : Int32) (by decide) <| C.putfieldR S4 (W H 130 rfl) (D41 24 rfl) 9 rfl 5 rfl (W H 131 rfl) (W H 106 rfl) (ty := .int) (by decide) rfl rfl 57 rfl fun T6 S6 => C.a2 S6 (D41 25 rfl) rfl rfl <| C.a1 S6 (D41 26 rfl) rfl rfl <| C.getfieldR S6 (W H 132 rfl) (D41 27 rfl) (S6.fld 8 rfl 6 rfl) 63 rfl <| C.i1 S6 (D41 28 rfl) rfl <| C.imul S6 (D41 29 rfl) 65 rfl (1 : Int32) (by decide) <| C.putfieldR S6 (W H 132 rfl) (D41 30 rfl) 9 rfl 6 rfl (W H 133 rfl) (W H 106 rfl) (ty := .int) (by decide) rfl rfl 68 rfl fun T7 S7 => C.a2 S7 (D41 31 rfl) rfl rfl <| C.i1 S7 (D41 32 rfl) rfl <| C.if_leF S7 (D41 33 rfl) 74 rfl (by decide) ?_
  refine C.k1 S7 (D41 34 rfl) 1 rfl <| C.g S7 (D41 35 rfl) 79 rfl <| C.putfieldR S7 (W H 134 rfl) (D41 36 rfl) 9 rfl 7 rfl (W H 135 rfl) (W H 106 rfl) (ty := .boolean) (by decide) rfl rfl 82 rfl fun T9 S9 => C.a2 S9 (D41 37 rfl) rfl rfl <| C.i1 S9 (D41 38 rfl) rfl <| C.i1 S9 (D41 39 rfl) rfl <| C.icmp_neF S9 (D41 40 rfl) 89 rfl (by decide) <| C.k1 S9 (D41 41 rfl) 1 rfl <| C.g S9 (D41 42 rfl) 94 rfl <| C.putfieldR S9 (W H 420 rfl) (D41 43 rfl) 9 rfl 4 rfl (W H 122 rfl) (W H 106 rfl) (ty := .boolean) (by decide) rfl rfl 97 rfl fun T11 S11 => C.a2 S11 (D41 44 rfl) rfl rfl ?_
  exact C.rA S11 rfl rfl (D41 45 rfl) [0, 1, 2, 3, 4, 5, 6, 7, 8, 9] ⟨f5, rfl, rfl, rfl⟩
theorem quant2 (H : Hy a0 Z cst dce nona sfv) (o bo g0 l1 hm l2 ga gb gc gd ge : Addr) (cp : Int32) (f : Addr) (hcp : Cpt cp) :
    Con lch Z consts_1 Y42 prog_28_method_19_code 7 (Option.some (Jvm.ClassFile.FieldType.object "com/example/honest_errors/honesterrors/jsonschema/RegexAssembler$Fragment")) (rm 4 1 10 57) #[(.ref o), (.ref f), (.int 1), (.int 1), (.int 2)] [(o, O3 Z (.ref bo) (.ref g0) (.ref l1) (.ref hm) (.ref l2) (.int 1) (.int 0)), (bo, Ary Z .byte ((.int 1) :: (.int 0) :: (.int 0) :: z13)), (g0, Ary Z (.array .int) [(.ref ga), (.ref gb), (.ref gc), (.ref gd), (.ref ge)]), (ga, Ary Z .int ((.int (-1)) :: (.int 0) :: (.int 0) :: z13)), (gb, Ary Z .int ((.int cp) :: (.int 0) :: (.int 0) :: z13)), (gc, Ary Z .int ((.int 0) :: (.int 0) :: (.int 0) :: z13)), (gd, Ary Z .int ((.int 0) :: (.int 0) :: (.int 0) :: z13)), (ge, Ary Z .int ((.int 0) :: (.int 0) :: (.int 0) :: z13)), (f, O4 Z (.int 0) (.int 0) (.int 0) (.int ((-1 : Int32) - cp)) (.int 1) (.int 1) (.int 1) (.int 1) (.int 0))] []
      (fun rv L1 M1 => ∃ (g : Addr), rv = some (.ref g) ∧ L1 = [(o, O3 Z (.ref bo) (.ref g0) (.ref l1) (.ref hm) (.ref l2) (.int 2) (.int 0)), (bo, Ary Z .byte ((.int 1) :: (.int 8) :: (.int 0) :: z13)), (g0, Ary Z (.array .int) [(.ref ga), (.ref gb), (.ref gc), (.ref gd), (.ref ge)]), (ga, Ary Z .int ((.int (-1)) :: (.int (-1)) :: (.int 0) :: z13)), (gb, Ary Z .int ((.int cp) :: (.int ((-1 : Int32) - cp)) :: (.int 0) :: z13)), (gc, Ary Z .int ((.int 0) :: (.int 1) :: (.int 0) :: z13)), (gd, Ary Z .int ((.int 0) :: (.int 1) :: (.int 0) :: z13)), (ge, Ary Z .int ((.int 0) :: (.int 0) :: (.int 0) :: z13)), (f, O4 Z (.int 0) (.int 0) (.int 0) (.int ((-1 : Int32) - cp)) (.int 1) (.int 1) (.int 1) (.int 1) (.int 0)), (g, O4 Z (.int 1) (.int 2) (.int 2) (.int (-2147483648)) (.int 1) (.int 1) (.int 1) (.int 1) (.int 0))] ∧ M1 = []) := by
  refine Con.ob #[vr o, vr f, vi 1, vi 1, vi 2, us, us] (plainFor_of_name pn11) ?_
  intro p e s m below meth c T0 h0 C S0
  refine C.a1 S0 (D42 0 rfl) rfl rfl <| C.getfieldR S0 (W H 136 rfl) (D42 1 rfl) (S0.fld 8 rfl 3 rfl) 4 rfl <| C.ldcInt S0 (W H 415 rfl) (D42 2 rfl) 6 rfl <| C.icmp_eq S0 (D42 3 rfl) 23 9 (by decide) (by decide) rfl (fun hc1 => absurd hc1 (atom_ne hcp)) fun hc1 => C.a1 S0 (D42 4 rfl) rfl rfl <| C.a1 S0 (D42 5 rfl) rfl rfl <| C.i1 S0 (D42 6 rfl) rfl <| C.i1 S0 (D42 7 rfl) rfl <| C.i2 S0 (D42 8 rfl) rfl <| C.xp (y' := Y39) S0 (S0.exa 0 rfl) (W H 416 rfl) (W H 417 rfl) (W H 92 rfl) (W H 93 rfl) (W H 418 rfl) (W H 32 rfl) (W H 419 rfl) (runQ2 H o bo g0 l1 hm l2 ga gb gc gd ge cp f) (D42 9 rfl) pd22 [(.ref f), (.int 1), (.int 1), (.int 2)] [] [0, 1, 2, 3, 4, 5, 6, 7, 8] rl0 ?_
  rintro T2 _ _ _ ⟨g3, rfl, rfl, rfl⟩ hro2 S2
  replace S2 := S2.nc (L' := [(o, O3 Z (.ref bo) (.ref g0) (.ref l1) (.ref hm) (.ref l2) (.int 2) (.int 0)), (bo, Ary Z .byte ((.int 1) :: (.int 8) :: (.int 0) :: z13)), (g0, Ary Z (.array .int) [(.ref ga), (.ref gb), (.ref gc), (.ref gd), (.ref ge)]), (ga, Ary Z .int ((.int (-1)) :: (.int (-1)) :: (.int 0) :: z13)), (gb, Ary Z .int ((.int cp) :: (.int ((-1 : Int32) - cp)) :: (.int 0) :: z13)), (gc, Ary Z .int ((.int 0) :: (.int 1) :: (.int 0) :: z13)), (gd, Ary Z .int ((.int 0) :: (.int 1) :: (.int 0) :: z13)), (ge, Ary Z .int ((.int 0) :: (.int 0) :: (.int 0) :: z13)), (f, O4 Z (.int 0) (.int 0) (.int 0) (.int ((-1 : Int32) - cp)) (.int 1) (.int 1) (.int 1) (.int 1) (.int 0)), (g3, O4 Z (.int 1) (.int 2) (.int 2) (.int (-2147483648)) (.int 1) (.int 1) (.int 1) (.int 1) (.int 0))]) rfl
  refine C.astore S2 (D42 10 rfl) 20 rfl rfl #[vr o, vr f, vi 1, vi 1, vi 2, vr g3, us] rfl <| C.g S2 (D42 11 rfl) 161 rfl <| C.a2 S2 (D42 12 rfl) rfl rfl ?_
  exact C.rA S2 rfl rfl (D42 13 rfl) [0, 1, 2, 3, 4, 5, 6, 7, 8, 9] ⟨g3, rfl, rfl, rfl⟩
theorem patchP (H : Hy a0 Z cst dce nona sfv) (o bo g0 l1 hm l2 ga gb gc gd ge : Addr) (cp : Int32) (f : Addr) :
    Con lch Z consts_1 Y43 prog_28_method_38_code 5 none (rm 0 0 0 0) #[(.ref o), (.ref f), (.int 1)] [(o, O3 Z (.ref bo) (.ref g0) (.ref l1) (.ref hm) (.ref l2) (.int 2) (.int 0)), (g0, Ary Z (.array .int) [(.ref ga), (.ref gb), (.ref gc), (.ref gd), (.ref ge)]), (ga, Ary Z .int ((.int (-1)) :: (.int (-1)) :: (.int 0) :: z13)), (f, O4 Z (.int 0) (.int 0) (.int 0) (.int ((-1 : Int32) - cp)) (.int 1) (.int 1) (.int 1) (.int 1) (.int 0))] []
      (fun rv L1 M1 => rv = none ∧ L1 = [(o, O3 Z (.ref bo) (.ref g0) (.ref l1) (.ref hm) (.ref l2) (.int 2) (.int 0)), (g0, Ary Z (.array .int) [(.ref ga), (.ref gb), (.ref gc), (.ref gd), (.ref ge)]), (ga, Ary Z .int ((.int 1) :: (.int (-1)) :: (.int 0) :: z13)), (f, O4 Z (.int 0) (.int (-1)) (.int (-1)) (.int ((-1 : Int32) - cp)) (.int 1) (.int 1) (.int 1) (.int 1) (.int 0))] ∧ M1 = []) := by
  refine Con.ob #[vr o, vr f, vi 1, us, us] (plainFor_of_name pn11) ?_
  intro p e s m below meth c T0 h0 C S0
  refine C.a1 S0 (D43 0 rfl) rfl rfl <| C.getfieldR S0 (W H 128 rfl) (D43 1 rfl) (S0.fld 3 rfl 1 rfl) 4 rfl <| C.istoreN S0 (D43 2 rfl) 5 rfl #[vr o, vr f, vi 1, vi 0, us] rfl <| C.i1 S0 (D43 3 rfl) rfl <| C.if_ltF S0 (D43 4 rfl) 9 rfl (by decide) <| C.a1 S0 (D43 5 rfl) rfl rfl <| C.gl S0 (W H 42 rfl) (D43 6 rfl) 0 rfl 1 rfl fun T2 S2 => C.i1 S2 (D43 7 rfl) rfl <| C.k1 S2 (D43 8 rfl) 1 rfl <| C.iand S2 (D43 9 rfl) 16 rfl (0 : Int32) (by decide) <| C.aaload S2 (S2.at 1 rfl) rfl (D43 10 rfl) 17 rfl (by decide) 0 rfl rfl <| C.i1 S2 (D43 11 rfl) rfl <| C.k1 S2 (D43 12 rfl) 1 rfl <| C.ishr S2 (D43 13 rfl) 20 rfl (0 : Int32) (by decide) <| C.iaload S2 (S2.at 2 rfl) (D43 14 rfl) 21 rfl (by decide) 0 rfl rfl <| C.istore S2 (D43 15 rfl) 23 rfl #[vr o, vr f, vi 1, vi 0, vi (-1)] rfl <| C.a1 S2 (D43 16 rfl) rfl rfl <| C.gl S2 (W H 42 rfl) (D43 17 rfl) 0 rfl 1 rfl fun T3 S3 => C.i1 S3 (D43 18 rfl) rfl ?_
  refine C.k1 S3 (D43 19 rfl) 1 rfl <| C.iand S3 (D43 20 rfl) 30 rfl (0 : Int32) (by decide) <| C.aaload S3 (S3.at 1 rfl) rfl (D43 21 rfl) 31 rfl (by decide) 0 rfl rfl <| C.i1 S3 (D43 22 rfl) rfl <| C.k1 S3 (D43 23 rfl) 1 rfl <| C.ishr S3 (D43 24 rfl) 34 rfl (0 : Int32) (by decide) <| C.i1 S3 (D43 25 rfl) rfl <| C.iastore S3 2 rfl (D43 26 rfl) 36 rfl (by decide) 0 rfl (leD rfl) (1 : Int32) rfl fun T4 S4 => C.i2 S4 (D43 27 rfl) rfl <| C.istoreN S4 (D43 28 rfl) 39 rfl #[vr o, vr f, vi 1, vi (-1), vi (-1)] rfl <| C.g S4 (D43 29 rfl) 5 rfl <| C.i1 S4 (D43 3 rfl) rfl <| C.if_ltT S4 (D43 4 rfl) 42 rfl (by decide) <| C.a1 S4 (D43 30 rfl) rfl rfl <| C.k1 S4 (D43 31 rfl) (-1) rfl <| C.putfieldR S4 (W H 128 rfl) (D43 32 rfl) 3 rfl 1 rfl (W H 115 rfl) (W H 106 rfl) (ty := .int) (by decide) rfl rfl 47 rfl fun T6 S6 => C.a1 S6 (D43 33 rfl) rfl rfl <| C.k1 S6 (D43 34 rfl) (-1) rfl <| C.putfieldR S6 (W H 129 rfl) (D43 35 rfl) 3 rfl 2 rfl (W H 117 rfl) (W H 106 rfl) (ty := .int) (by decide) rfl rfl 52 rfl fun T7 S7 => ?_
  exact C.rV S7 (D43 36 rfl) [0, 1, 2, 3] ⟨rfl, rfl, rfl⟩
theorem patchR (H : Hy a0 Z cst dce nona sfv) (o bo g0 l1 hm l2 ga gb gc gd ge f : Addr) :
    Con lch Z consts_1 Y43 prog_28_method_38_code 5 none (rm 0 0 0 0) #[(.ref o), (.ref f), (.int 2)] [(o, O3 Z (.ref bo) (.ref g0) (.ref l1) (.ref hm) (.ref l2) (.int 3) (.int 0)), (g0, Ary Z (.array .int) [(.ref ga), (.ref gb), (.ref gc), (.ref gd), (.ref ge)]), (ga, Ary Z .int ((.int (-1)) :: (.int (-1)) :: (.int (-1)) :: z13)), (f, O4 Z (.int 1) (.int 2) (.int 2) (.int (-2147483648)) (.int 1) (.int 1) (.int 1) (.int 1) (.int 0))] []
      (fun rv L1 M1 => rv = none ∧ L1 = [(o, O3 Z (.ref bo) (.ref g0) (.ref l1) (.ref hm) (.ref l2) (.int 3) (.int 0)), (g0, Ary Z (.array .int) [(.ref ga), (.ref gb), (.ref gc), (.ref gd), (.ref ge)]), (ga, Ary Z .int ((.int (-1)) :: (.int 2) :: (.int (-1)) :: z13)), (f, O4 Z (.int 1) (.int (-1)) (.int (-1)) (.int (-2147483648)) (.int 1) (.int 1) (.int 1) (.int 1) (.int 0))] ∧ M1 = []) := by
  refine Con.ob #[vr o, vr f, vi 2, us, us] (plainFor_of_name pn11) ?_
  intro p e s m below meth c T0 h0 C S0
  refine C.a1 S0 (D43 0 rfl) rfl rfl <| C.getfieldR S0 (W H 128 rfl) (D43 1 rfl) (S0.fld 3 rfl 1 rfl) 4 rfl <| C.istoreN S0 (D43 2 rfl) 5 rfl #[vr o, vr f, vi 2, vi 2, us] rfl <| C.i1 S0 (D43 3 rfl) rfl <| C.if_ltF S0 (D43 4 rfl) 9 rfl (by decide) <| C.a1 S0 (D43 5 rfl) rfl rfl <| C.gl S0 (W H 42 rfl) (D43 6 rfl) 0 rfl 1 rfl fun T2 S2 => C.i1 S2 (D43 7 rfl) rfl <| C.k1 S2 (D43 8 rfl) 1 rfl <| C.iand S2 (D43 9 rfl) 16 rfl (0 : Int32) (by decide) <| C.aaload S2 (S2.at 1 rfl) rfl (D43 10 rfl) 17 rfl (by decide) 0 rfl rfl <| C.i1 S2 (D43 11 rfl) rfl <| C.k1 S2 (D43 12 rfl) 1 rfl <| C.ishr S2 (D43 13 rfl) 20 rfl (1 : Int32) (by decide) <| C.iaload S2 (S2.at 2 rfl) (D43 14 rfl) 21 rfl (by decide) 1 rfl rfl <| C.istore S2 (D43 15 rfl) 23 rfl #[vr o, vr f, vi 2, vi 2, vi (-1)] rfl <| C.a1 S2 (D43 16 rfl) rfl rfl <| C.gl S2 (W H 42 rfl) (D43 17 rfl) 0 rfl 1 rfl fun T3 S3 => C.i1 S3 (D43 18 rfl) rfl ?_
  refine C.k1 S3 (D43 19 rfl) 1 rfl <| C.iand S3 (D43 20 rfl) 30 rfl (0 : Int32) (by decide) <| C.aaload S3 (S3.at 1 rfl) rfl (D43 21 rfl) 31 rfl (by decide) 0 rfl rfl <| C.i1 S3 (D43 22 rfl) rfl <| C.k1 S3 (D43 23 rfl) 1 rfl <| C.ishr S3 (D43 24 rfl) 34 rfl (1 : Int32) (by decide) <| C.i1 S3 (D43 25 rfl) rfl <| C.iastore S3 2 rfl (D43 26 rfl) 36 rfl (by decide) 1 rfl (leD rfl) (2 : Int32) rfl fun T4 S4 => C.i2 S4 (D43 27 rfl) rfl <| C.istoreN S4 (D43 28 rfl) 39 rfl #[vr o, vr f, vi 2, vi (-1), vi (-1)] rfl <| C.g S4 (D43 29 rfl) 5 rfl <| C.i1 S4 (D43 3 rfl) rfl <| C.if_ltT S4 (D43 4 rfl) 42 rfl (by decide) <| C.a1 S4 (D43 30 rfl) rfl rfl <| C.k1 S4 (D43 31 rfl) (-1) rfl <| C.putfieldR S4 (W H 128 rfl) (D43 32 rfl) 3 rfl 1 rfl (W H 115 rfl) (W H 106 rfl) (ty := .int) (by decide) rfl rfl 47 rfl fun T6 S6 => C.a1 S6 (D43 33 rfl) rfl rfl <| C.k1 S6 (D43 34 rfl) (-1) rfl <| C.putfieldR S6 (W H 129 rfl) (D43 35 rfl) 3 rfl 2 rfl (W H 117 rfl) (W H 106 rfl) (ty := .int) (by decide) rfl rfl 52 rfl fun T7 S7 => ?_
  exact C.rV S7 (D43 36 rfl) [0, 1, 2, 3] ⟨rfl, rfl, rfl⟩
theorem progP (H : Hy a0 Z cst dce nona sfv) (o bo g0 l1 hm l2 ga gb gc gd ge : Addr) (cp : Int32) (f : Addr) :
    Con lch Z consts_1 Y44 prog_28_method_29_code 3 (some .int) (rm 1 0 0 19) #[(.ref o), (.ref f)] [(o, O3 Z (.ref bo) (.ref g0) (.ref l1) (.ref hm) (.ref l2) (.int 1) (.int 0)), (bo, Ary Z .byte ((.int 1) :: (.int 0) :: (.int 0) :: z13)), (g0, Ary Z (.array .int) [(.ref ga), (.ref gb), (.ref gc), (.ref gd), (.ref ge)]), (ga, Ary Z .int ((.int (-1)) :: (.int 0) :: (.int 0) :: z13)), (gb, Ary Z .int ((.int cp) :: (.int 0) :: (.int 0) :: z13)), (gc, Ary Z .int ((.int 0) :: (.int 0) :: (.int 0) :: z13)), (gd, Ary Z .int ((.int 0) :: (.int 0) :: (.int 0) :: z13)), (ge, Ary Z .int ((.int 0) :: (.int 0) :: (.int 0) :: z13)), (f, O4 Z (.int 0) (.int 0) (.int 0) (.int ((-1 : Int32) - cp)) (.int 1) (.int 1) (.int 1) (.int 1) (.int 0))] []
      (fun rv L1 M1 => rv = some (.int 0) ∧ L1 = [(o, O3 Z (.ref bo) (.ref g0) (.ref l1) (.ref hm) (.ref l2) (.int 2) (.int 0)), (bo, Ary Z .byte ((.int 1) :: (.int 21) :: (.int 0) :: z13)), (g0, Ary Z (.array .int) [(.ref ga), (.ref gb), (.ref gc), (.ref gd), (.ref ge)]), (ga, Ary Z .int ((.int 1) :: (.int (-1)) :: (.int 0) :: z13)), (gb, Ary Z .int ((.int cp) :: (.int 0) :: (.int 0) :: z13)), (gc, Ary Z .int ((.int 0) :: (.int 0) :: (.int 0) :: z13)), (gd, Ary Z .int ((.int 0) :: (.int 0) :: (.int 0) :: z13)), (ge, Ary Z .int ((.int 0) :: (.int 0) :: (.int 0) :: z13)), (f, O4 Z (.int 0) (.int (-1)) (.int (-1)) (.int ((-1 : Int32) - cp)) (.int 1) (.int 1) (.int 1) (.int 1) (.int 0))] ∧ M1 = []) := by
  refine Con.ob #[vr o, vr f, us] (plainFor_of_name pn11) ?_
  intro p e s m below meth c T0 h0 C S0
  refine C.a1 S0 (D44 0 rfl) rfl rfl <| C.k2 S0 (D44 1 rfl) 21 rfl <| C.k1 S0 (D44 2 rfl) 0 rfl <| C.k1 S0 (D44 3 rfl) 0 rfl <| C.k1 S0 (D44 4 rfl) 0 rfl <| C.k1 S0 (D44 5 rfl) 0 rfl <| C.xp (y' := Y39) S0 (S0.exa 0 rfl) (W H 95 rfl) (W H 96 rfl) (W H 92 rfl) (W H 93 rfl) (W H 97 rfl) (W H 32 rfl) (W H 98 rfl) (nodeE1 H o bo g0 l1 hm l2 ga gb gc gd ge cp) (D44 6 rfl) pd20 [(.int 21), (.int 0), (.int 0), (.int 0), (.int 0)] [] [0, 1, 2, 3, 4, 5, 6, 7] rl0 ?_
  rintro T1 _ _ _ ⟨rfl, rfl, rfl⟩ hro1 S1
  replace S1 := S1.nc (L' := [(o, O3 Z (.ref bo) (.ref g0) (.ref l1) (.ref hm) (.ref l2) (.int 2) (.int 0)), (bo, Ary Z .byte ((.int 1) :: (.int 21) :: (.int 0) :: z13)), (g0, Ary Z (.array .int) [(.ref ga), (.ref gb), (.ref gc), (.ref gd), (.ref ge)]), (ga, Ary Z .int ((.int (-1)) :: (.int (-1)) :: (.int 0) :: z13)), (gb, Ary Z .int ((.int cp) :: (.int 0) :: (.int 0) :: z13)), (gc, Ary Z .int ((.int 0) :: (.int 0) :: (.int 0) :: z13)), (gd, Ary Z .int ((.int 0) :: (.int 0) :: (.int 0) :: z13)), (ge, Ary Z .int ((.int 0) :: (.int 0) :: (.int 0) :: z13)), (f, O4 Z (.int 0) (.int 0) (.int 0) (.int ((-1 : Int32) - cp)) (.int 1) (.int 1) (.int 1) (.int 1) (.int 0))]) rfl
  refine C.istoreN S1 (D44 7 rfl) 11 rfl #[vr o, vr f, vi 1] rfl <| C.a1 S1 (D44 8 rfl) rfl rfl <| C.getfieldR S1 (W H 123 rfl) (D44 9 rfl) (S1.fld 8 rfl 0 rfl) 15 rfl <| C.if_ltF S1 (D44 10 rfl) 18 rfl (by decide) <| C.a1 S1 (D44 11 rfl) rfl rfl <| C.a1 S1 (D44 12 rfl) rfl rfl <| C.i1 S1 (D44 13 rfl) rfl <| C.xp (y' := Y39) S1 (S1.exa 0 rfl) (W H 146 rfl) (W H 147 rfl) (W H 92 rfl) (W H 93 rfl) (W H 148 rfl) (W H 32 rfl) (W H 149 rfl) (patchP H o bo g0 l1 hm l2 ga gb gc gd ge cp f) (D44 14 rfl) pd19 [(.ref f), (.int 1)] [] [0, 2, 3, 8] rl0 ?_
  rintro T3 _ _ _ ⟨rfl, rfl, rfl⟩ hro3 S3
  replace S3 := S3.nc (L' := [(o, O3 Z (.ref bo) (.ref g0) (.ref l1) (.ref hm) (.ref l2) (.int 2) (.int 0)), (bo, Ary Z .byte ((.int 1) :: (.int 21) :: (.int 0) :: z13)), (g0, Ary Z (.array .int) [(.ref ga), (.ref gb), (.ref gc), (.ref gd), (.ref ge)]), (ga, Ary Z .int ((.int 1) :: (.int (-1)) :: (.int 0) :: z13)), (gb, Ary Z .int ((.int cp) :: (.int 0) :: (.int 0) :: z13)), (gc, Ary Z .int ((.int 0) :: (.int 0) :: (.int 0) :: z13)), (gd, Ary Z .int ((.int 0) :: (.int 0) :: (.int 0) :: z13)), (ge, Ary Z .int ((.int 0) :: (.int 0) :: (.int 0) :: z13)), (f, O4 Z (.int 0) (.int (-1)) (.int (-1)) (.int ((-1 : Int32) - cp)) (.int 1) (.int 1) (.int 1) (.int 1) (.int 0))]) rfl
  refine C.a1 S3 (D44 15 rfl) rfl rfl <| C.getfieldR S3 (W H 123 rfl) (D44 16 rfl) (S3.fld 8 rfl 0 rfl) 28 rfl <| C.if_ltF S3 (D44 17 rfl) 31 rfl (by decide) <| C.a1 S3 (D44 18 rfl) rfl rfl <| C.getfieldR S3 (W H 123 rfl) (D44 19 rfl) (S3.fld 8 rfl 0 rfl) 35 rfl <| C.g S3 (D44 20 rfl) 39 rfl ?_
  exact C.rI S3 (D44 21 rfl) [0, 1, 2, 3, 4, 5, 6, 7, 8] ⟨rfl, rfl, rfl⟩
theorem progR (H : Hy a0 Z cst dce nona sfv) (o bo g0 l1 hm l2 ga gb gc gd ge : Addr) (cp kd : Int32) (f : Addr) :
    Con lch Z consts_1 Y44 prog_28_method_29_code 3 (some .int) (rm 1 0 0 19) #[(.ref o), (.ref f)] [(o, O3 Z (.ref bo) (.ref g0) (.ref l1) (.ref hm) (.ref l2) (.int 2) (.int 0)), (bo, Ary Z .byte ((.int 1) :: (.int kd) :: (.int 0) :: z13)), (g0, Ary Z (.array .int) [(.ref ga), (.ref gb), (.ref gc), (.ref gd), (.ref ge)]), (ga, Ary Z .int ((.int (-1)) :: (.int (-1)) :: (.int 0) :: z13)), (gb, Ary Z .int ((.int cp) :: (.int ((-1 : Int32) - cp)) :: (.int 0) :: z13)), (gc, Ary Z .int ((.int 0) :: (.int 1) :: (.int 0) :: z13)), (gd, Ary Z .int ((.int 0) :: (.int 1) :: (.int 0) :: z13)), (ge, Ary Z .int ((.int 0) :: (.int 0) :: (.int 0) :: z13)), (f, O4 Z (.int 1) (.int 2) (.int 2) (.int (-2147483648)) (.int 1) (.int 1) (.int 1) (.int 1) (.int 0))] []
      (fun rv L1 M1 => rv = some (.int 1) ∧ L1 = [(o, O3 Z (.ref bo) (.ref g0) (.ref l1) (.ref hm) (.ref l2) (.int 3) (.int 0)), (bo, Ary Z .byte ((.int 1) :: (.int kd) :: (.int 21) :: z13)), (g0, Ary Z (.array .int) [(.ref ga), (.ref gb), (.ref gc), (.ref gd), (.ref ge)]), (ga, Ary Z .int ((.int (-1)) :: (.int 2) :: (.int (-1)) :: z13)), (gb, Ary Z .int ((.int cp) :: (.int ((-1 : Int32) - cp)) :: (.int 0) :: z13)), (gc, Ary Z .int ((.int 0) :: (.int 1) :: (.int 0) :: z13)), (gd, Ary Z .int ((.int 0) :: (.int 1) :: (.int 0) :: z13)), (ge, Ary Z .int ((.int 0) :: (.int 0) :: (.int 0) :: z13)), (f, O4 Z (.int 1) (.int (-1)) (.int (-1)) (.int (-2147483648)) (.int 1) (.int 1) (.int 1) (.int 1) (.int 0))] ∧ M1 = []) := by
  refine Con.ob #[vr o, vr f, us] (plainFor_of_name pn11) ?_
  intro p e s m below meth c T0 h0 C S0
  refine C.a1 S0 (D44 0 rfl) rfl rfl <| C.k2 S0 (D44 1 rfl) 21 rfl <| C.k1 S0 (D44 2 rfl) 0 rfl <| C.k1 S0 (D44 3 rfl) 0 rfl <| C.k1 S0 (D44 4 rfl) 0 rfl <| C.k1 S0 (D44 5 rfl) 0 rfl <| C.xp (y' := Y39) S0 (S0.exa 0 rfl) (W H 95 rfl) (W H 96 rfl) (W H 92 rfl) (W H 93 rfl) (W H 97 rfl) (W H 32 rfl) (W H 98 rfl) (nodeE2 H o bo g0 l1 hm l2 ga gb gc gd ge cp kd) (D44 6 rfl) pd20 [(.int 21), (.int 0), (.int 0), (.int 0), (.int 0)] [] [0, 1, 2, 3, 4, 5, 6, 7] rl0 ?_
  rintro T1 _ _ _ ⟨rfl, rfl, rfl⟩ hro1 S1
  replace S1 := S1.nc (L' := [(o, O3 Z (.ref bo) (.ref g0) (.ref l1) (.ref hm) (.ref l2) (.int 3) (.int 0)), (bo, Ary Z .byte ((.int 1) :: (.int kd) :: (.int 21) :: z13)), (g0, Ary Z (.array .int) [(.ref ga), (.ref gb), (.ref gc), (.ref gd), (.ref ge)]), (ga, Ary Z .int ((.int (-1)) :: (.int (-1)) :: (.int (-1)) :: z13)), (gb, Ary Z .int ((.int cp) :: (.int ((-1 : Int32) - cp)) :: (.int 0) :: z13)), (gc, Ary Z .int ((.int 0) :: (.int 1) :: (.int 0) :: z13)), (gd, Ary Z .int ((.int 0) :: (.int 1) :: (.int 0) :: z13)), (ge, Ary Z .int ((.int 0) :: (.int 0) :: (.int 0) :: z13)), (f, O4 Z (.int 1) (.int 2) (.int 2) (.int (-2147483648)) (.int 1) (.int 1) (.int 1) (.int 1) (.int 0))]) rfl
  refine C.istoreN S1 (D44 7 rfl) 11 rfl #[vr o, vr f, vi 2] rfl <| C.a1 S1 (D44 8 rfl) rfl rfl <| C.getfieldR S1 (W H 123 rfl) (D44 9 rfl) (S1.fld 8 rfl 0 rfl) 15 rfl <| C.if_ltF S1 (D44 10 rfl) 18 rfl (by decide) <| C.a1 S1 (D44 11 rfl) rfl rfl <| C.a1 S1 (D44 12 rfl) rfl rfl <| C.i1 S1 (D44 13 rfl) rfl <| C.xp (y' := Y39) S1 (S1.exa 0 rfl) (W H 146 rfl) (W H 147 rfl) (W H 92 rfl) (W H 93 rfl) (W H 148 rfl) (W H 32 rfl) (W H 149 rfl) (patchR H o bo g0 l1 hm l2 ga gb gc gd ge f) (D44 14 rfl) pd19 [(.ref f), (.int 2)] [] [0, 2, 3, 8] rl0 ?_
  rintro T3 _ _ _ ⟨rfl, rfl, rfl⟩ hro3 S3
  replace S3 := S3.nc (L' := [(o, O3 Z (.ref bo) (.ref g0) (.ref l1) (.ref hm) (.ref l2) (.int 3) (.int 0)), (bo, Ary Z .byte ((.int 1) :: (.int kd) :: (.int 21) :: z13)), (g0, Ary Z (.array .int) [(.ref ga), (.ref gb), (.ref gc), (.ref gd), (.ref ge)]), (ga, Ary Z .int ((.int (-1)) :: (.int 2) :: (.int (-1)) :: z13)), (gb, Ary Z .int ((.int cp) :: (.int ((-1 : Int32) - cp)) :: (.int 0) :: z13)), (gc, Ary Z .int ((.int 0) :: (.int 1) :: (.int 0) :: z13)), (gd, Ary Z .int ((.int 0) :: (.int 1) :: (.int 0) :: z13)), (ge, Ary Z .int ((.int 0) :: (.int 0) :: (.int 0) :: z13)), (f, O4 Z (.int 1) (.int (-1)) (.int (-1)) (.int (-2147483648)) (.int 1) (.int 1) (.int 1) (.int 1) (.int 0))]) rfl
  refine C.a1 S3 (D44 15 rfl) rfl rfl <| C.getfieldR S3 (W H 123 rfl) (D44 16 rfl) (S3.fld 8 rfl 0 rfl) 28 rfl <| C.if_ltF S3 (D44 17 rfl) 31 rfl (by decide) <| C.a1 S3 (D44 18 rfl) rfl rfl <| C.getfieldR S3 (W H 123 rfl) (D44 19 rfl) (S3.fld 8 rfl 0 rfl) 35 rfl <| C.g S3 (D44 20 rfl) 39 rfl ?_
  exact C.rI S3 (D44 21 rfl) [0, 1, 2, 3, 4, 5, 6, 7, 8] ⟨rfl, rfl, rfl⟩
theorem skN (H : Hy a0 Z cst dce nona sfv) (o : Addr) :
    Con lch Z consts_1 Y45 prog_28_method_34_code 5 (some .int) (rm 0 0 0 0) #[(.ref o), (.int (-1))] [] []
      (fun rv L1 M1 => rv = some (.int (-1)) ∧ L1 = [] ∧ M1 = []) := by
  refine Con.ob #[vr o, vi (-1), us, us, us] (plainFor_of_name pn11) ?_
  intro p e s m below meth c T0 h0 C S0
  refine C.i1 S0 (D45 0 rfl) rfl <| C.istoreN S0 (D45 1 rfl) 2 rfl #[vr o, vi (-1), vi (-1), us, us] rfl <| C.i1 S0 (D45 2 rfl) rfl <| C.if_ltT S0 (D45 3 rfl) 29 rfl (by decide) <| C.i1 S0 (D45 4 rfl) rfl <| C.istoreN S0 (D45 5 rfl) 31 rfl #[vr o, vi (-1), vi (-1), vi (-1), us] rfl <| C.i1 S0 (D45 6 rfl) rfl <| C.if_ltT S0 (D45 7 rfl) 71 rfl (by decide) <| C.i1 S0 (D45 8 rfl) rfl ?_
  exact C.rI S0 (D45 9 rfl) [] ⟨rfl, rfl, rfl⟩
theorem skP0 (H : Hy a0 Z cst dce nona sfv) (o bo g0 l1 hm l2 : Addr) :
    Con lch Z consts_1 Y45 prog_28_method_34_code 5 (some .int) (rm 0 0 0 0) #[(.ref o), (.int 0)] [] [(o, O3 Z (.ref bo) (.ref g0) (.ref l1) (.ref hm) (.ref l2) (.int 2) (.int 0)), (bo, Ary Z .byte ((.int 1) :: (.int 21) :: (.int 0) :: z13))]
      (fun rv L1 M1 => rv = some (.int 0) ∧ L1 = [] ∧ M1 = []) := by
  refine Con.ob #[vr o, vi 0, us, us, us] (plainFor_of_name pn11) ?_
  intro p e s m below meth c T0 h0 C S0
  refine C.i1 S0 (D45 0 rfl) rfl <| C.istoreN S0 (D45 1 rfl) 2 rfl #[vr o, vi 0, vi 0, us, us] rfl <| C.i1 S0 (D45 2 rfl) rfl <| C.if_ltF S0 (D45 3 rfl) 6 rfl (by decide) <| C.a1 S0 (D45 10 rfl) rfl rfl <| C.gf S0 (W H 37 rfl) (D45 11 rfl) (S0.fldM 0 rfl 0 rfl) 10 rfl fun T2 S2 => C.i1 S2 (D45 12 rfl) rfl <| C.baload S2 (S2.atM 1 rfl) (D45 13 rfl) 12 rfl (by decide) 0 rfl rfl <| C.k2 S2 (D45 14 rfl) 22 rfl <| C.icmp_neT S2 (D45 15 rfl) 29 rfl (by decide) <| C.i1 S2 (D45 4 rfl) rfl <| C.istoreN S2 (D45 5 rfl) 31 rfl #[vr o, vi 0, vi 0, vi 0, us] rfl <| C.i1 S2 (D45 6 rfl) rfl <| C.if_ltF S2 (D45 7 rfl) 35 rfl (by decide) <| C.a1 S2 (D45 16 rfl) rfl rfl <| C.gf S2 (W H 37 rfl) (D45 17 rfl) (S2.fldM 0 rfl 0 rfl) 39 rfl fun T5 S5 => C.i1 S5 (D45 18 rfl) rfl <| C.baload S5 (S5.atM 1 rfl) (D45 19 rfl) 41 rfl (by decide) 0 rfl rfl <| C.k2 S5 (D45 20 rfl) 22 rfl <| C.icmp_neT S5 (D45 21 rfl) 71 rfl (by decide) ?_
  refine C.i1 S5 (D45 8 rfl) rfl ?_
  exact C.rI S5 (D45 9 rfl) [] ⟨rfl, rfl, rfl⟩
theorem skP1 (H : Hy a0 Z cst dce nona sfv) (o bo g0 l1 hm l2 : Addr) :
    Con lch Z consts_1 Y45 prog_28_method_34_code 5 (some .int) (rm 0 0 0 0) #[(.ref o), (.int 1)] [] [(o, O3 Z (.ref bo) (.ref g0) (.ref l1) (.ref hm) (.ref l2) (.int 2) (.int 0)), (bo, Ary Z .byte ((.int 1) :: (.int 21) :: (.int 0) :: z13))]
      (fun rv L1 M1 => rv = some (.int 1) ∧ L1 = [] ∧ M1 = []) := by
  refine Con.ob #[vr o, vi 1, us, us, us] (plainFor_of_name pn11) ?_
  intro p e s m below meth c T0 h0 C S0
  refine C.i1 S0 (D45 0 rfl) rfl <| C.istoreN S0 (D45 1 rfl) 2 rfl #[vr o, vi 1, vi 1, us, us] rfl <| C.i1 S0 (D45 2 rfl) rfl <| C.if_ltF S0 (D45 3 rfl) 6 rfl (by decide) <| C.a1 S0 (D45 10 rfl) rfl rfl <| C.gf S0 (W H 37 rfl) (D45 11 rfl) (S0.fldM 0 rfl 0 rfl) 10 rfl fun T2 S2 => C.i1 S2 (D45 12 rfl) rfl <| C.baload S2 (S2.atM 1 rfl) (D45 13 rfl) 12 rfl (by decide) 1 rfl rfl <| C.k2 S2 (D45 14 rfl) 22 rfl <| C.icmp_neT S2 (D45 15 rfl) 29 rfl (by decide) <| C.i1 S2 (D45 4 rfl) rfl <| C.istoreN S2 (D45 5 rfl) 31 rfl #[vr o, vi 1, vi 1, vi 1, us] rfl <| C.i1 S2 (D45 6 rfl) rfl <| C.if_ltF S2 (D45 7 rfl) 35 rfl (by decide) <| C.a1 S2 (D45 16 rfl) rfl rfl <| C.gf S2 (W H 37 rfl) (D45 17 rfl) (S2.fldM 0 rfl 0 rfl) 39 rfl fun T5 S5 => C.i1 S5 (D45 18 rfl) rfl <| C.baload S5 (S5.atM 1 rfl) (D45 19 rfl) 41 rfl (by decide) 1 rfl rfl <| C.k2 S5 (D45 20 rfl) 22 rfl <| C.icmp_neT S5 (D45 21 rfl) 71 rfl (by decide) ?_
  refine C.i1 S5 (D45 8 rfl) rfl ?_
  exact C.rI S5 (D45 9 rfl) [] ⟨rfl, rfl, rfl⟩
theorem skR1 (H : Hy a0 Z cst dce nona sfv) (o bo g0 l1 hm l2 : Addr) (kd : Int32) (hk : kd = 6 ∨ kd = 7 ∨ kd = 8) :
    Con lch Z consts_1 Y45 prog_28_method_34_code 5 (some .int) (rm 0 0 0 0) #[(.ref o), (.int 1)] [] [(o, O3 Z (.ref bo) (.ref g0) (.ref l1) (.ref hm) (.ref l2) (.int 3) (.int 0)), (bo, Ary Z .byte ((.int 1) :: (.int kd) :: (.int 21) :: z13))]
      (fun rv L1 M1 => rv = some (.int 1) ∧ L1 = [] ∧ M1 = []) := by
  refine Con.ob #[vr o, vi 1, us, us, us] (plainFor_of_name pn11) ?_
  intro p e s m below meth c T0 h0 C S0
  refine C.i1 S0 (D45 0 rfl) rfl <| C.istoreN S0 (D45 1 rfl) 2 rfl #[vr o, vi 1, vi 1, us, us] rfl <| C.i1 S0 (D45 2 rfl) rfl <| C.if_ltF S0 (D45 3 rfl) 6 rfl (by decide) <| C.a1 S0 (D45 10 rfl) rfl rfl <| C.gf S0 (W H 37 rfl) (D45 11 rfl) (S0.fldM 0 rfl 0 rfl) 10 rfl fun T2 S2 => C.i1 S2 (D45 12 rfl) rfl <| C.baload S2 (S2.atM 1 rfl) (D45 13 rfl) 12 rfl (by decide) 1 rfl rfl <| C.k2 S2 (D45 14 rfl) 22 rfl ?_
  refine C.icmp_ne S2 (D45 15 rfl) 29 17 (by decide) (by decide) rfl (fun hc3 => ?_) fun hc3 => absurd hc3 (kd_no hk (by decide))
  refine C.i1 S2 (D45 4 rfl) rfl <| C.istoreN S2 (D45 5 rfl) 31 rfl #[vr o, vi 1, vi 1, vi 1, us] rfl <| C.i1 S2 (D45 6 rfl) rfl <| C.if_ltF S2 (D45 7 rfl) 35 rfl (by decide) <| C.a1 S2 (D45 16 rfl) rfl rfl <| C.gf S2 (W H 37 rfl) (D45 17 rfl) (S2.fldM 0 rfl 0 rfl) 39 rfl fun T5 S5 => C.i1 S5 (D45 18 rfl) rfl <| C.baload S5 (S5.atM 1 rfl) (D45 19 rfl) 41 rfl (by decide) 1 rfl rfl <| C.k2 S5 (D45 20 rfl) 22 rfl ?_
  refine C.icmp_ne S5 (D45 21 rfl) 71 46 (by decide) (by decide) rfl (fun hc6 => ?_) fun hc6 => absurd hc6 (kd_no hk (by decide))
  refine C.i1 S5 (D45 8 rfl) rfl ?_
  exact C.rI S5 (D45 9 rfl) [] ⟨rfl, rfl, rfl⟩
theorem skR2 (H : Hy a0 Z cst dce nona sfv) (o bo g0 l1 hm l2 : Addr) (kd : Int32) (hk : kd = 6 ∨ kd = 7 ∨ kd = 8) :
    Con lch Z consts_1 Y45 prog_28_method_34_code 5 (some .int) (rm 0 0 0 0) #[(.ref o), (.int 2)] [] [(o, O3 Z (.ref bo) (.ref g0) (.ref l1) (.ref hm) (.ref l2) (.int 3) (.int 0)), (bo, Ary Z .byte ((.int 1) :: (.int kd) :: (.int 21) :: z13))]
      (fun rv L1 M1 => rv = some (.int 2) ∧ L1 = [] ∧ M1 = []) := by
  refine Con.ob #[vr o, vi 2, us, us, us] (plainFor_of_name pn11) ?_
  intro p e s m below meth c T0 h0 C S0
  refine C.i1 S0 (D45 0 rfl) rfl <| C.istoreN S0 (D45 1 rfl) 2 rfl #[vr o, vi 2, vi 2, us, us] rfl <| C.i1 S0 (D45 2 rfl) rfl <| C.if_ltF S0 (D45 3 rfl) 6 rfl (by decide) <| C.a1 S0 (D45 10 rfl) rfl rfl <| C.gf S0 (W H 37 rfl) (D45 11 rfl) (S0.fldM 0 rfl 0 rfl) 10 rfl fun T2 S2 => C.i1 S2 (D45 12 rfl) rfl <| C.baload S2 (S2.atM 1 rfl) (D45 13 rfl) 12 rfl (by decide) 2 rfl rfl <| C.k2 S2 (D45 14 rfl) 22 rfl <| C.icmp_neT S2 (D45 15 rfl) 29 rfl (by decide) <| C.i1 S2 (D45 4 rfl) rfl <| C.istoreN S2 (D45 5 rfl) 31 rfl #[vr o, vi 2, vi 2, vi 2, us] rfl <| C.i1 S2 (D45 6 rfl) rfl <| C.if_ltF S2 (D45 7 rfl) 35 rfl (by decide) <| C.a1 S2 (D45 16 rfl) rfl rfl <| C.gf S2 (W H 37 rfl) (D45 17 rfl) (S2.fldM 0 rfl 0 rfl) 39 rfl fun T5 S5 => C.i1 S5 (D45 18 rfl) rfl <| C.baload S5 (S5.atM 1 rfl) (D45 19 rfl) 41 rfl (by decide) 2 rfl rfl <| C.k2 S5 (D45 20 rfl) 22 rfl <| C.icmp_neT S5 (D45 21 rfl) 71 rfl (by decide) ?_
  refine C.i1 S5 (D45 8 rfl) rfl ?_
  exact C.rI S5 (D45 9 rfl) [] ⟨rfl, rfl, rfl⟩
theorem lead1 (H : Hy a0 Z cst dce nona sfv) :
    Con lch Z consts_1 Y46 prog_28_method_33_code 1 (some .boolean) (rm 0 0 0 0) #[(.int 1)] [] []
      (fun rv L1 M1 => rv = some (.int 0) ∧ L1 = [] ∧ M1 = []) := by
  refine Con.ob #[vi 1] (plainFor_of_name pn11) ?_
  intro p e s m below meth c T0 h0 C S0
  refine C.i1 S0 (D46 0 rfl) rfl <| C.k1 S0 (D46 1 rfl) 5 rfl <| C.icmp_eqF S0 (D46 2 rfl) 5 rfl (by decide) <| C.i1 S0 (D46 3 rfl) rfl <| C.k2 S0 (D46 4 rfl) 14 rfl <| C.icmp_eqF S0 (D46 5 rfl) 11 rfl (by decide) <| C.i1 S0 (D46 6 rfl) rfl <| C.k2 S0 (D46 7 rfl) 15 rfl <| C.icmp_eqF S0 (D46 8 rfl) 17 rfl (by decide) <| C.i1 S0 (D46 9 rfl) rfl <| C.k2 S0 (D46 10 rfl) 17 rfl <| C.icmp_eqF S0 (D46 11 rfl) 23 rfl (by decide) <| C.i1 S0 (D46 12 rfl) rfl <| C.k2 S0 (D46 13 rfl) 18 rfl <| C.icmp_eqF S0 (D46 14 rfl) 29 rfl (by decide) <| C.i1 S0 (D46 15 rfl) rfl <| C.k2 S0 (D46 16 rfl) 24 rfl <| C.icmp_eqF S0 (D46 17 rfl) 35 rfl (by decide) <| C.i1 S0 (D46 18 rfl) rfl <| C.k2 S0 (D46 19 rfl) 25 rfl <| C.icmp_eqF S0 (D46 20 rfl) 41 rfl (by decide) <| C.i1 S0 (D46 21 rfl) rfl <| C.k2 S0 (D46 22 rfl) 26 rfl <| C.icmp_eqF S0 (D46 23 rfl) 47 rfl (by decide) <| C.i1 S0 (D46 24 rfl) rfl <| C.k2 S0 (D46 25 rfl) 19 rfl ?_
  refine C.icmp_eqF S0 (D46 26 rfl) 53 rfl (by decide) <| C.i1 S0 (D46 27 rfl) rfl <| C.k2 S0 (D46 28 rfl) 20 rfl <| C.icmp_neT S0 (D46 29 rfl) 63 rfl (by decide) <| C.k1 S0 (D46 30 rfl) 0 rfl ?_
  exact C.rN S0 (D46 31 rfl) 0 (by decide) [] ⟨rfl, rfl, rfl⟩
theorem lead21 (H : Hy a0 Z cst dce nona sfv) :
    Con lch Z consts_1 Y46 prog_28_method_33_code 1 (some .boolean) (rm 0 0 0 0) #[(.int 21)] [] []
      (fun rv L1 M1 => rv = some (.int 0) ∧ L1 = [] ∧ M1 = []) := by
  refine Con.ob #[vi 21] (plainFor_of_name pn11) ?_
  intro p e s m below meth c T0 h0 C S0
  refine C.i1 S0 (D46 0 rfl) rfl <| C.k1 S0 (D46 1 rfl) 5 rfl <| C.icmp_eqF S0 (D46 2 rfl) 5 rfl (by decide) <| C.i1 S0 (D46 3 rfl) rfl <| C.k2 S0 (D46 4 rfl) 14 rfl <| C.icmp_eqF S0 (D46 5 rfl) 11 rfl (by decide) <| C.i1 S0 (D46 6 rfl) rfl <| C.k2 S0 (D46 7 rfl) 15 rfl <| C.icmp_eqF S0 (D46 8 rfl) 17 rfl (by decide) <| C.i1 S0 (D46 9 rfl) rfl <| C.k2 S0 (D46 10 rfl) 17 rfl <| C.icmp_eqF S0 (D46 11 rfl) 23 rfl (by decide) <| C.i1 S0 (D46 12 rfl) rfl <| C.k2 S0 (D46 13 rfl) 18 rfl <| C.icmp_eqF S0 (D46 14 rfl) 29 rfl (by decide) <| C.i1 S0 (D46 15 rfl) rfl <| C.k2 S0 (D46 16 rfl) 24 rfl <| C.icmp_eqF S0 (D46 17 rfl) 35 rfl (by decide) <| C.i1 S0 (D46 18 rfl) rfl <| C.k2 S0 (D46 19 rfl) 25 rfl <| C.icmp_eqF S0 (D46 20 rfl) 41 rfl (by decide) <| C.i1 S0 (D46 21 rfl) rfl <| C.k2 S0 (D46 22 rfl) 26 rfl <| C.icmp_eqF S0 (D46 23 rfl) 47 rfl (by decide) <| C.i1 S0 (D46 24 rfl) rfl <| C.k2 S0 (D46 25 rfl) 19 rfl ?_
  refine C.icmp_eqF S0 (D46 26 rfl) 53 rfl (by decide) <| C.i1 S0 (D46 27 rfl) rfl <| C.k2 S0 (D46 28 rfl) 20 rfl <| C.icmp_neT S0 (D46 29 rfl) 63 rfl (by decide) <| C.k1 S0 (D46 30 rfl) 0 rfl ?_
  exact C.rN S0 (D46 31 rfl) 0 (by decide) [] ⟨rfl, rfl, rfl⟩
theorem leadK (H : Hy a0 Z cst dce nona sfv) (kd : Int32) (hk : kd = 6 ∨ kd = 7 ∨ kd = 8) :
    Con lch Z consts_1 Y46 prog_28_method_33_code 1 (some .boolean) (rm 0 0 0 0) #[(.int kd)] [] []
      (fun rv L1 M1 => rv = some (.int 0) ∧ L1 = [] ∧ M1 = []) := by
  refine Con.ob #[vi kd] (plainFor_of_name pn11) ?_
  intro p e s m below meth c T0 h0 C S0
  refine C.i1 S0 (D46 0 rfl) rfl <| C.k1 S0 (D46 1 rfl) 5 rfl <| C.icmp_eq S0 (D46 2 rfl) 59 5 (by decide) (by decide) rfl (fun hc1 => absurd hc1 (kd_no hk (by decide))) fun hc1 => C.i1 S0 (D46 3 rfl) rfl <| C.k2 S0 (D46 4 rfl) 14 rfl <| C.icmp_eq S0 (D46 5 rfl) 59 11 (by decide) (by decide) rfl (fun hc2 => absurd hc2 (kd_no hk (by decide))) fun hc2 => C.i1 S0 (D46 6 rfl) rfl <| C.k2 S0 (D46 7 rfl) 15 rfl <| C.icmp_eq S0 (D46 8 rfl) 59 17 (by decide) (by decide) rfl (fun hc3 => absurd hc3 (kd_no hk (by decide))) fun hc3 => C.i1 S0 (D46 9 rfl) rfl <| C.k2 S0 (D46 10 rfl) 17 rfl <| C.icmp_eq S0 (D46 11 rfl) 59 23 (by decide) (by decide) rfl (fun hc4 => absurd hc4 (kd_no hk (by decide))) fun hc4 => C.i1 S0 (D46 12 rfl) rfl <| C.k2 S0 (D46 13 rfl) 18 rfl <| C.icmp_eq S0 (D46 14 rfl) 59 29 (by decide) (by decide) rfl (fun hc5 => absurd hc5 (kd_no hk (by decide))) fun hc5 => C.i1 S0 (D46 15 rfl) rfl ?_
  refine C.k2 S0 (D46 16 rfl) 24 rfl <| C.icmp_eq S0 (D46 17 rfl) 59 35 (by decide) (by decide) rfl (fun hc6 => absurd hc6 (kd_no hk (by decide))) fun hc6 => C.i1 S0 (D46 18 rfl) rfl <| C.k2 S0 (D46 19 rfl) 25 rfl <| C.icmp_eq S0 (D46 20 rfl) 59 41 (by decide) (by decide) rfl (fun hc7 => absurd hc7 (kd_no hk (by decide))) fun hc7 => C.i1 S0 (D46 21 rfl) rfl <| C.k2 S0 (D46 22 rfl) 26 rfl <| C.icmp_eq S0 (D46 23 rfl) 59 47 (by decide) (by decide) rfl (fun hc8 => absurd hc8 (kd_no hk (by decide))) fun hc8 => C.i1 S0 (D46 24 rfl) rfl <| C.k2 S0 (D46 25 rfl) 19 rfl <| C.icmp_eq S0 (D46 26 rfl) 59 53 (by decide) (by decide) rfl (fun hc9 => absurd hc9 (kd_no hk (by decide))) fun hc9 => C.i1 S0 (D46 27 rfl) rfl <| C.k2 S0 (D46 28 rfl) 20 rfl ?_
  refine C.icmp_ne S0 (D46 29 rfl) 63 59 (by decide) (by decide) rfl (fun hc10 => ?_) fun hc10 => absurd hc10 (kd_no hk (by decide))
  refine C.k1 S0 (D46 30 rfl) 0 rfl ?_
  exact C.rN S0 (D46 31 rfl) 0 (by decide) [] ⟨rfl, rfl, rfl⟩
theorem alEmp (H : Hy a0 Z cst dce nona sfv) (t : Addr) :
    Con lch Z consts_1 Y47 jdk_38_method_9_code 1 (some .boolean) (rm 0 0 0 0) #[(.ref t)] [] [(t, O1 Z (.int 0) (.ref dce) (.int 0))]
      (fun rv L1 M1 => rv = some (.int 1) ∧ L1 = [] ∧ M1 = []) := by
  refine Con.ob #[vr t] (plainFor_of_name pn8) ?_
  intro p e s m below meth c T0 h0 C S0
  refine C.a1 S0 (D47 0 rfl) rfl rfl <| C.gf S0 (W H 166 rfl) (D47 1 rfl) (S0.fldM 0 rfl 2 rfl) 4 rfl fun T1 S1 => C.if_neF S1 (D47 2 rfl) 7 rfl (by decide) <| C.k1 S1 (D47 3 rfl) 1 rfl <| C.g S1 (D47 4 rfl) 12 rfl ?_
  exact C.rN S1 (D47 5 rfl) 1 (by decide) [] ⟨rfl, rfl, rfl⟩
theorem min2 (H : Hy a0 Z cst dce nona sfv) :
    Con lch Z consts_1 Y48 jdk_29_method_69_code 2 (some .int) (rm 0 0 0 0) #[(.int 16), (.int 2)] [] []
      (fun rv L1 M1 => rv = some (.int 2) ∧ L1 = [] ∧ M1 = []) := by
  refine Con.ob #[vi 16, vi 2] (Jvm.Free.JP.mathPlain rfl (by decide +kernel)) ?_
  intro p e s m below meth c T0 h0 C S0
  refine C.i1 S0 (D48 0 rfl) rfl <| C.i1 S0 (D48 1 rfl) rfl <| C.icmp_gtT S0 (D48 2 rfl) 9 rfl (by decide) <| C.i1 S0 (D48 3 rfl) rfl ?_
  exact C.rI S0 (D48 4 rfl) [] ⟨rfl, rfl, rfl⟩
theorem pd23 : parseMethodDescriptor "(II)I" = some ⟨[.int, .int], some .int⟩ := by decide +kernel
theorem pn13 : plainName "java/util/Arrays" = true := by first | (simp [plainName, overriddenIn]; done) | decide +kernel
theorem cpI2 (H : Hy a0 Z cst dce nona sfv) (t : Addr) (x0 x1 x2 : Int32) :
    Con lch Z consts_1 Y49 jdk_65_method_123_code 3 (Option.some (Jvm.ClassFile.FieldType.array Jvm.ClassFile.FieldType.int)) (rm 1 1 2 40) #[(.ref t), (.int 2)] [] [(t, Ary Z .int ((.int x0) :: (.int x1) :: (.int x2) :: z13))]
      (fun rv L1 M1 => ∃ (w : Addr), rv = some (.ref w) ∧ L1 = [(w, AryX Z "[I" .int [(.int x0), (.int x1)])] ∧ M1 = []) := by
  refine Con.ob #[vr t, vi 2, us] (plainFor_of_name pn13) ?_
  intro p e s m below meth c T0 h0 C S0
  refine C.i1 S0 (D49 0 rfl) rfl <| C.a1 S0 (D49 1 rfl) rfl rfl <| C.arraylength S0 (S0.atM 0 rfl) (D49 2 rfl) 3 rfl (16 : Int32) rfl <| C.icmp_neT S0 (D49 3 rfl) 14 rfl (by decide) <| C.i1 S0 (D49 4 rfl) rfl <| C.newarrayX (aty := .int) S0 (ad := "[I") (by decide) (W H 41 rfl) (D49 5 rfl) 17 rfl (by decide) 2 rfl 2 (leD rfl) (by decide) (leD rfl) (leD rfl) fun T2 b2 S2 => C.astoreN S2 (D49 6 rfl) 18 rfl rfl #[vr t, vi 2, vr b2] rfl <| C.a1 S2 (D49 7 rfl) rfl rfl <| C.k1 S2 (D49 8 rfl) 0 rfl <| C.a1 S2 (D49 9 rfl) rfl rfl <| C.k1 S2 (D49 10 rfl) 0 rfl <| C.a1 S2 (D49 11 rfl) rfl rfl <| C.arraylength S2 (S2.atM 0 rfl) (D49 12 rfl) 24 rfl (16 : Int32) rfl <| C.i1 S2 (D49 13 rfl) rfl <| C.xs S2 (W H 173 rfl) (W H 174 rfl) (W H 175 rfl) (W H 176 rfl) (min2 H) (D49 14 rfl) pd23 [(.int 16), (.int 2)] [(.int 0), (.ref b2), (.int 0), (.ref t)] [] rl0 ?_
  rintro T3 _ _ _ ⟨rfl, rfl, rfl⟩ hro3 S3
  replace S3 := S3.n0
  refine C.arraycopyX S3 (W H 177 rfl) (W H 180 rfl) (W H 178 rfl) (W H 179 rfl) (S3.atM 0 rfl) 0 rfl rfl (by decide) (by decide) (by decide) 0 0 2 rfl rfl rfl (leD rfl) (leD rfl) (leD rfl) (leD rfl) [(.int x0), (.int x1)] rfl (D49 15 rfl) 31 rfl rfl (leD rfl) (leD rfl) fun T4 S4 => C.a1 S4 (D49 16 rfl) rfl rfl ?_
  exact C.rA S4 rfl rfl (D49 17 rfl) [0] ⟨b2, rfl, rfl, rfl⟩
theorem cpB2 (H : Hy a0 Z cst dce nona sfv) (t : Addr) (x0 x1 x2 : Int32) :
    Con lch Z consts_1 Y50 jdk_65_method_121_code 3 (Option.some (Jvm.ClassFile.FieldType.array Jvm.ClassFile.FieldType.byte)) (rm 1 1 2 40) #[(.ref t), (.int 2)] [] [(t, Ary Z .byte ((.int x0) :: (.int x1) :: (.int x2) :: z13))]
      (fun rv L1 M1 => ∃ (w : Addr), rv = some (.ref w) ∧ L1 = [(w, Ary Z .byte [(.int x0), (.int x1)])] ∧ M1 = []) := by
  refine Con.ob #[vr t, vi 2, us] (plainFor_of_name pn13) ?_
  intro p e s m below meth c T0 h0 C S0
  refine C.i1 S0 (D50 0 rfl) rfl <| C.a1 S0 (D50 1 rfl) rfl rfl <| C.arraylength S0 (S0.atM 0 rfl) (D50 2 rfl) 3 rfl (16 : Int32) rfl <| C.icmp_neT S0 (D50 3 rfl) 14 rfl (by decide) <| C.i1 S0 (D50 4 rfl) rfl <| C.newarray (aty := .byte) S0 (W H 23 rfl) (D50 5 rfl) 17 rfl (by decide) 2 rfl 2 (leD rfl) (by decide) (leD rfl) (leD rfl) fun T2 b2 S2 => C.astoreN S2 (D50 6 rfl) 18 rfl rfl #[vr t, vi 2, vr b2] rfl <| C.a1 S2 (D50 7 rfl) rfl rfl <| C.k1 S2 (D50 8 rfl) 0 rfl <| C.a1 S2 (D50 9 rfl) rfl rfl <| C.k1 S2 (D50 10 rfl) 0 rfl <| C.a1 S2 (D50 11 rfl) rfl rfl <| C.arraylength S2 (S2.atM 0 rfl) (D50 12 rfl) 24 rfl (16 : Int32) rfl <| C.i1 S2 (D50 13 rfl) rfl <| C.xs S2 (W H 173 rfl) (W H 174 rfl) (W H 175 rfl) (W H 176 rfl) (min2 H) (D50 14 rfl) pd23 [(.int 16), (.int 2)] [(.int 0), (.ref b2), (.int 0), (.ref t)] [] rl0 ?_
  rintro T3 _ _ _ ⟨rfl, rfl, rfl⟩ hro3 S3
  replace S3 := S3.n0
  refine C.arraycopy S3 (W H 177 rfl) (W H 180 rfl) (W H 178 rfl) (W H 179 rfl) (S3.atM 0 rfl) 0 rfl rfl (by decide) (by decide) (by decide) 0 0 2 rfl rfl rfl (leD rfl) (leD rfl) (leD rfl) (leD rfl) [(.int x0), (.int x1)] rfl (D50 15 rfl) 31 rfl rfl (leD rfl) (leD rfl) fun T4 S4 => C.a1 S4 (D50 16 rfl) rfl rfl ?_
  exact C.rA S4 rfl rfl (D50 17 rfl) [0] ⟨b2, rfl, rfl, rfl⟩
theorem min3 (H : Hy a0 Z cst dce nona sfv) :
    Con lch Z consts_1 Y48 jdk_29_method_69_code 2 (some .int) (rm 0 0 0 0) #[(.int 16), (.int 3)] [] []
      (fun rv L1 M1 => rv = some (.int 3) ∧ L1 = [] ∧ M1 = []) := by
  refine Con.ob #[vi 16, vi 3] (Jvm.Free.JP.mathPlain rfl (by decide +kernel)) ?_
  intro p e s m below meth c T0 h0 C S0
  refine C.i1 S0 (D48 0 rfl) rfl <| C.i1 S0 (D48 1 rfl) rfl <| C.icmp_gtT S0 (D48 2 rfl) 9 rfl (by decide) <| C.i1 S0 (D48 3 rfl) rfl ?_
  exact C.rI S0 (D48 4 rfl) [] ⟨rfl, rfl, rfl⟩
theorem cpI3 (H : Hy a0 Z cst dce nona sfv) (t : Addr) (x0 x1 x2 : Int32) :
    Con lch Z consts_1 Y49 jdk_65_method_123_code 3 (Option.some (Jvm.ClassFile.FieldType.array Jvm.ClassFile.FieldType.int)) (rm 1 1 3 40) #[(.ref t), (.int 3)] [] [(t, Ary Z .int ((.int x0) :: (.int x1) :: (.int x2) :: z13))]
      (fun rv L1 M1 => ∃ (w : Addr), rv = some (.ref w) ∧ L1 = [(w, AryX Z "[I" .int [(.int x0), (.int x1), (.int x2)])] ∧ M1 = []) := by
  refine Con.ob #[vr t, vi 3, us] (plainFor_of_name pn13) ?_
  intro p e s m below meth c T0 h0 C S0
  refine C.i1 S0 (D49 0 rfl) rfl <| C.a1 S0 (D49 1 rfl) rfl rfl <| C.arraylength S0 (S0.atM 0 rfl) (D49 2 rfl) 3 rfl (16 : Int32) rfl <| C.icmp_neT S0 (D49 3 rfl) 14 rfl (by decide) <| C.i1 S0 (D49 4 rfl) rfl <| C.newarrayX (aty := .int) S0 (ad := "[I") (by decide) (W H 41 rfl) (D49 5 rfl) 17 rfl (by decide) 3 rfl 3 (leD rfl) (by decide) (leD rfl) (leD rfl) fun T2 b2 S2 => C.astoreN S2 (D49 6 rfl) 18 rfl rfl #[vr t, vi 3, vr b2] rfl <| C.a1 S2 (D49 7 rfl) rfl rfl <| C.k1 S2 (D49 8 rfl) 0 rfl <| C.a1 S2 (D49 9 rfl) rfl rfl <| C.k1 S2 (D49 10 rfl) 0 rfl <| C.a1 S2 (D49 11 rfl) rfl rfl <| C.arraylength S2 (S2.atM 0 rfl) (D49 12 rfl) 24 rfl (16 : Int32) rfl <| C.i1 S2 (D49 13 rfl) rfl <| C.xs S2 (W H 173 rfl) (W H 174 rfl) (W H 175 rfl) (W H 176 rfl) (min3 H) (D49 14 rfl) pd23 [(.int 16), (.int 3)] [(.int 0), (.ref b2), (.int 0), (.ref t)] [] rl0 ?_
  rintro T3 _ _ _ ⟨rfl, rfl, rfl⟩ hro3 S3
  replace S3 := S3.n0
  refine C.arraycopyX S3 (W H 177 rfl) (W H 180 rfl) (W H 178 rfl) (W H 179 rfl) (S3.atM 0 rfl) 0 rfl rfl (by decide) (by decide) (by decide) 0 0 3 rfl rfl rfl (leD rfl) (leD rfl) (leD rfl) (leD rfl) [(.int x0), (.int x1), (.int x2)] rfl (D49 15 rfl) 31 rfl rfl (leD rfl) (leD rfl) fun T4 S4 => C.a1 S4 (D49 16 rfl) rfl rfl ?_
  exact C.rA S4 rfl rfl (D49 17 rfl) [0] ⟨b2, rfl, rfl, rfl⟩
theorem cpB3 (H : Hy a0 Z cst dce nona sfv) (t : Addr) (x0 x1 x2 : Int32) :
    Con lch Z consts_1 Y50 jdk_65_method_121_code 3 (Option.some (Jvm.ClassFile.FieldType.array Jvm.ClassFile.FieldType.byte)) (rm 1 1 3 40) #[(.ref t), (.int 3)] [] [(t, Ary Z .byte ((.int x0) :: (.int x1) :: (.int x2) :: z13))]
      (fun rv L1 M1 => ∃ (w : Addr), rv = some (.ref w) ∧ L1 = [(w, Ary Z .byte [(.int x0), (.int x1), (.int x2)])] ∧ M1 = []) := by
  refine Con.ob #[vr t, vi 3, us] (plainFor_of_name pn13) ?_
  intro p e s m below meth c T0 h0 C S0
  refine C.i1 S0 (D50 0 rfl) rfl <| C.a1 S0 (D50 1 rfl) rfl rfl <| C.arraylength S0 (S0.atM 0 rfl) (D50 2 rfl) 3 rfl (16 : Int32) rfl <| C.icmp_neT S0 (D50 3 rfl) 14 rfl (by decide) <| C.i1 S0 (D50 4 rfl) rfl <| C.newarray (aty := .byte) S0 (W H 23 rfl) (D50 5 rfl) 17 rfl (by decide) 3 rfl 3 (leD rfl) (by decide) (leD rfl) (leD rfl) fun T2 b2 S2 => C.astoreN S2 (D50 6 rfl) 18 rfl rfl #[vr t, vi 3, vr b2] rfl <| C.a1 S2 (D50 7 rfl) rfl rfl <| C.k1 S2 (D50 8 rfl) 0 rfl <| C.a1 S2 (D50 9 rfl) rfl rfl <| C.k1 S2 (D50 10 rfl) 0 rfl <| C.a1 S2 (D50 11 rfl) rfl rfl <| C.arraylength S2 (S2.atM 0 rfl) (D50 12 rfl) 24 rfl (16 : Int32) rfl <| C.i1 S2 (D50 13 rfl) rfl <| C.xs S2 (W H 173 rfl) (W H 174 rfl) (W H 175 rfl) (W H 176 rfl) (min3 H) (D50 14 rfl) pd23 [(.int 16), (.int 3)] [(.int 0), (.ref b2), (.int 0), (.ref t)] [] rl0 ?_
  rintro T3 _ _ _ ⟨rfl, rfl, rfl⟩ hro3 S3
  replace S3 := S3.n0
  refine C.arraycopy S3 (W H 177 rfl) (W H 180 rfl) (W H 178 rfl) (W H 179 rfl) (S3.atM 0 rfl) 0 rfl rfl (by decide) (by decide) (by decide) 0 0 3 rfl rfl rfl (leD rfl) (leD rfl) (leD rfl) (leD rfl) [(.int x0), (.int x1), (.int x2)] rfl (D50 15 rfl) 31 rfl rfl (leD rfl) (leD rfl) fun T4 S4 => C.a1 S4 (D50 16 rfl) rfl rfl ?_
  exact C.rA S4 rfl rfl (D50 17 rfl) [0] ⟨b2, rfl, rfl, rfl⟩
theorem toArr (H : Hy a0 Z cst dce nona sfv) (l1 w : Addr) :
    Con lch Z consts_1 Y51 jdk_38_method_17_code 2 (Option.some (Jvm.ClassFile.FieldType.array (Jvm.ClassFile.FieldType.object "java/lang/Object"))) (rm 1 0 0 40) #[(.ref l1), (.ref w)] [(l1, O1 Z (.int 0) (.ref dce) (.int 0)), (w, AryRX Z "[Lcom/example/honest_errors/honesterrors/jsonschema/RegexLeaf;" "com/example/honest_errors/honesterrors/jsonschema/RegexLeaf" [])] []
      (fun rv L1 M1 => rv = some (.ref w) ∧ L1 = [(l1, O1 Z (.int 0) (.ref dce) (.int 0)), (w, AryRX Z "[Lcom/example/honest_errors/honesterrors/jsonschema/RegexLeaf;" "com/example/honest_errors/honesterrors/jsonschema/RegexLeaf" [])] ∧ M1 = []) := by
  refine Con.ob #[vr l1, vr w] (plainFor_of_name pn8) ?_
  intro p e s m below meth c T0 h0 C S0
  refine C.a1 S0 (D51 0 rfl) rfl rfl <| C.arraylength S0 (aryrx (S0.at 1 rfl)) (D51 1 rfl) 2 rfl (0 : Int32) rfl <| C.a1 S0 (D51 2 rfl) rfl rfl <| C.gl S0 (W H 166 rfl) (D51 3 rfl) 0 rfl 2 rfl fun T1 S1 => C.icmp_geT S1 (D51 4 rfl) 25 rfl (by decide) <| C.a1 S1 (D51 5 rfl) rfl rfl <| C.gl S1 (W H 66 rfl) (D51 6 rfl) 0 rfl 1 rfl fun T3 S3 => C.k1 S3 (D51 7 rfl) 0 rfl <| C.a1 S3 (D51 8 rfl) rfl rfl <| C.k1 S3 (D51 9 rfl) 0 rfl <| C.a1 S3 (D51 10 rfl) rfl rfl <| C.gl S3 (W H 166 rfl) (D51 11 rfl) 0 rfl 2 rfl fun T4 S4 => C.arraycopy0 S4 (W H 198 rfl) (W H 180 rfl) (W H 178 rfl) (W H 179 rfl) (S4.oldA H.2.2.2.aDC) 1 rfl rfl (leD rfl) (leD rfl) (D51 12 rfl) 39 rfl rfl (leD rfl) (leD rfl) fun T5 S5 => C.a1 S5 (D51 13 rfl) rfl rfl <| C.arraylength S5 (aryrx (S5.at 1 rfl)) (D51 14 rfl) 41 rfl (0 : Int32) rfl <| C.a1 S5 (D51 15 rfl) rfl rfl <| C.gl S5 (W H 166 rfl) (D51 16 rfl) 0 rfl 2 rfl fun T6 S6 => ?_
  refine C.icmp_leT S6 (D51 17 rfl) 55 rfl (by decide) <| C.a1 S6 (D51 18 rfl) rfl rfl ?_
  exact C.rA S6 rfl rfl (D51 19 rfl) [0, 1] ⟨rfl, rfl, rfl⟩
abbrev O5 (Z : State) (v0 : Value) (v1 : Value) (v2 : Value) (v3 : Value) (v4 : Value) (v5 : Value) (v6 : Value) (v7 : Value) (v8 : Value) (v9 : Value) (v10 : Value) (v11 : Value) : Cell → Prop := Obj Z "com/example/honest_errors/honesterrors/jsonschema/RegexProgram" [("com/example/honest_errors/honesterrors/jsonschema/RegexProgram", "op", "[B", v0), ("com/example/honest_errors/honesterrors/jsonschema/RegexProgram", "next", "[I", v1), ("com/example/honest_errors/honesterrors/jsonschema/RegexProgram", "a", "[I", v2), ("com/example/honest_errors/honesterrors/jsonschema/RegexProgram", "b", "[I", v3), ("com/example/honest_errors/honesterrors/jsonschema/RegexProgram", "c", "[I", v4), ("com/example/honest_errors/honesterrors/jsonschema/RegexProgram", "d", "[I", v5), ("com/example/honest_errors/honesterrors/jsonschema/RegexProgram", "leaves", "[Lcom/example/honest_errors/honesterrors/jsonschema/RegexLeaf;", v6), ("com/example/honest_errors/honesterrors/jsonschema/RegexProgram", "entry", "I", v7), ("com/example/honest_errors/honesterrors/jsonschema/RegexProgram", "failures", "[I", v8), ("com/example/honest_errors/honesterrors/jsonschema/RegexProgram", "failureSets", "I", v9), ("com/example/honest_errors/honesterrors/jsonschema/RegexProgram", "groups", "I", v10), ("com/example/honest_errors/honesterrors/jsonschema/RegexProgram", "captures", "I", v11)]
theorem pn14 : plainName "com/example/honest_errors/honesterrors/jsonschema/RegexProgram" = true := by first | (simp [plainName, overriddenIn]; done) | decide +kernel
theorem prInit (H : Hy a0 Z cst dce nona sfv) (pr po pn pa pb pcc pd plv tr : Addr) (en : Int32) :
    Con lch Z consts_1 Y52 prog_34_method_1_code 9 none (rm 1 0 0 12) #[(.ref pr), (.ref po), (.ref tr), (.ref plv), (.int en), .null, (.int 0), (.int 0), (.int 0)] [(pr, O5 Z .null .null .null .null .null .null .null (.int 0) .null (.int 0) (.int 0) (.int 0)), (tr, AryRA Z .int "[I" [(.ref pn), (.ref pa), (.ref pb), (.ref pcc), (.ref pd)])] []
      (fun rv L1 M1 => rv = none ∧ L1 = [(pr, O5 Z (.ref po) (.ref pn) (.ref pa) (.ref pb) (.ref pcc) (.ref pd) (.ref plv) (.int en) .null (.int 0) (.int 0) (.int 0)), (tr, AryRA Z .int "[I" [(.ref pn), (.ref pa), (.ref pb), (.ref pcc), (.ref pd)])] ∧ M1 = []) := by
  refine Con.ob #[vr pr, vr po, vr tr, vr plv, vi en, .val .null, vi 0, vi 0, vi 0] (plainFor_of_name pn14) ?_
  intro p e s m below meth c T0 h0 C S0
  refine C.a1 S0 (D52 0 rfl) rfl rfl <| C.objInit S0 (W H 206 rfl) (W H 20 rfl) (W H 21 rfl) (D52 1 rfl) 4 rfl rfl (leD rfl) (leD rfl) fun T1 S1 => C.a1 S1 (D52 2 rfl) rfl rfl <| C.a1 S1 (D52 3 rfl) rfl rfl <| C.putfield S1 (host := "") (Or.inl (W H 207 rfl)) Via.refl (D52 4 rfl) 0 rfl 0 rfl (Or.inr ⟨(W H 208 rfl), rfl, rfl⟩) (W H 183 rfl) (ty := (.array .byte)) (by decide) rfl rfl 9 rfl fun T2 S2 => C.a1 S2 (D52 5 rfl) rfl rfl <| C.a1 S2 (D52 6 rfl) rfl rfl <| C.k1 S2 (D52 7 rfl) 0 rfl <| C.aaload S2 (aryra (S2.at 1 rfl)) rfl (D52 8 rfl) 13 rfl (by decide) 0 rfl rfl <| C.putfield S2 (host := "") (Or.inl (W H 209 rfl)) Via.refl (D52 9 rfl) 0 rfl 1 rfl (Or.inr ⟨(W H 210 rfl), rfl, rfl⟩) (W H 183 rfl) (ty := (.array .int)) (by decide) rfl rfl 16 rfl fun T3 S3 => C.a1 S3 (D52 10 rfl) rfl rfl <| C.a1 S3 (D52 11 rfl) rfl rfl <| C.k1 S3 (D52 12 rfl) 1 rfl <| C.aaload S3 (aryra (S3.at 1 rfl)) rfl (D52 13 rfl) 20 rfl (by decide) 1 rfl rfl ?_
  refine C.putfield S3 (host := "") (Or.inl (W H 211 rfl)) Via.refl (D52 14 rfl) 0 rfl 2 rfl (Or.inr ⟨(W H 212 rfl), rfl, rfl⟩) (W H 183 rfl) (ty := (.array .int)) (by decide) rfl rfl 23 rfl fun T4 S4 => C.a1 S4 (D52 15 rfl) rfl rfl <| C.a1 S4 (D52 16 rfl) rfl rfl <| C.k1 S4 (D52 17 rfl) 2 rfl <| C.aaload S4 (aryra (S4.at 1 rfl)) rfl (D52 18 rfl) 27 rfl (by decide) 2 rfl rfl <| C.putfield S4 (host := "") (Or.inl (W H 213 rfl)) Via.refl (D52 19 rfl) 0 rfl 3 rfl (Or.inr ⟨(W H 214 rfl), rfl, rfl⟩) (W H 183 rfl) (ty := (.array .int)) (by decide) rfl rfl 30 rfl fun T5 S5 => C.a1 S5 (D52 20 rfl) rfl rfl <| C.a1 S5 (D52 21 rfl) rfl rfl <| C.k1 S5 (D52 22 rfl) 3 rfl <| C.aaload S5 (aryra (S5.at 1 rfl)) rfl (D52 23 rfl) 34 rfl (by decide) 3 rfl rfl <| C.putfield S5 (host := "") (Or.inl (W H 215 rfl)) Via.refl (D52 24 rfl) 0 rfl 4 rfl (Or.inr ⟨(W H 216 rfl), rfl, rfl⟩) (W H 183 rfl) (ty := (.array .int)) (by decide) rfl rfl 37 rfl fun T6 S6 => ?_
  replace S6 := S6.asL (L' := [(pr, O5 Z (.ref po) (.ref pn) (.ref pa) (.ref pb) (.ref pcc) .null .null (.int 0) .null (.int 0) (.int 0) (.int 0)), (tr, AryRA Z .int "[I" [(.ref pn), (.ref pa), (.ref pb), (.ref pcc), (.ref pd)])]) rfl
  refine C.a1 S6 (D52 25 rfl) rfl rfl <| C.a1 S6 (D52 26 rfl) rfl rfl <| C.k1 S6 (D52 27 rfl) 4 rfl <| C.aaload S6 (aryra (S6.at 1 rfl)) rfl (D52 28 rfl) 41 rfl (by decide) 4 rfl rfl <| C.putfield S6 (host := "") (Or.inl (W H 217 rfl)) Via.refl (D52 29 rfl) 0 rfl 5 rfl (Or.inr ⟨(W H 218 rfl), rfl, rfl⟩) (W H 183 rfl) (ty := (.array .int)) (by decide) rfl rfl 44 rfl fun T7 S7 => C.a1 S7 (D52 30 rfl) rfl rfl <| C.a1 S7 (D52 31 rfl) rfl rfl <| C.putfield S7 (host := "") (Or.inl (W H 219 rfl)) Via.refl (D52 32 rfl) 0 rfl 6 rfl (Or.inr ⟨(W H 220 rfl), rfl, rfl⟩) (W H 183 rfl) (ty := (.array (.object "com/example/honest_errors/honesterrors/jsonschema/RegexLeaf"))) (by decide) rfl rfl 49 rfl fun T8 S8 => C.a1 S8 (D52 33 rfl) rfl rfl <| C.i2 S8 (D52 34 rfl) rfl <| C.putfield S8 (host := "") (Or.inl (W H 221 rfl)) Via.refl (D52 35 rfl) 0 rfl 7 rfl (Or.inr ⟨(W H 222 rfl), rfl, rfl⟩) (W H 183 rfl) (ty := .int) (by decide) rfl rfl 55 rfl fun T9 S9 => ?_
  refine C.a1 S9 (D52 36 rfl) rfl rfl <| C.a2 S9 (D52 37 rfl) rfl rfl <| C.putfield S9 (host := "") (Or.inl (W H 223 rfl)) Via.refl (D52 38 rfl) 0 rfl 8 rfl (Or.inr ⟨(W H 224 rfl), rfl, rfl⟩) (W H 183 rfl) (ty := (.array .int)) (by decide) rfl rfl 61 rfl fun T10 S10 => C.a1 S10 (D52 39 rfl) rfl rfl <| C.i2 S10 (D52 40 rfl) rfl <| C.putfield S10 (host := "") (Or.inl (W H 225 rfl)) Via.refl (D52 41 rfl) 0 rfl 9 rfl (Or.inr ⟨(W H 226 rfl), rfl, rfl⟩) (W H 183 rfl) (ty := .int) (by decide) rfl rfl 67 rfl fun T11 S11 => ?_
  replace S11 := S11.asL (L' := [(pr, O5 Z (.ref po) (.ref pn) (.ref pa) (.ref pb) (.ref pcc) (.ref pd) (.ref plv) (.int en) .null (.int 0) (.int 0) (.int 0)), (tr, AryRA Z .int "[I" [(.ref pn), (.ref pa), (.ref pb), (.ref pcc), (.ref pd)])]) rfl
  refine C.a1 S11 (D52 42 rfl) rfl rfl <| C.i2 S11 (D52 43 rfl) rfl <| C.putfield S11 (host := "") (Or.inl (W H 227 rfl)) Via.refl (D52 44 rfl) 0 rfl 10 rfl (Or.inr ⟨(W H 228 rfl), rfl, rfl⟩) (W H 183 rfl) (ty := .int) (by decide) rfl rfl 73 rfl fun T12 S12 => C.a1 S12 (D52 45 rfl) rfl rfl <| C.i2 S12 (D52 46 rfl) rfl <| C.putfield S12 (host := "") (Or.inl (W H 229 rfl)) Via.refl (D52 47 rfl) 0 rfl 11 rfl (Or.inr ⟨(W H 230 rfl), rfl, rfl⟩) (W H 183 rfl) (ty := .int) (by decide) rfl rfl 79 rfl fun T13 S13 => ?_
  exact C.rV S13 (D52 48 rfl) [0, 1] ⟨rfl, rfl, rfl⟩
theorem pd24 : parseMethodDescriptor "(Lcom/example/honest_errors/honesterrors/jsonschema/RegexAssembler$Fragment;)I" = some ⟨[(.object "com/example/honest_errors/honesterrors/jsonschema/RegexAssembler$Fragment")], some .int⟩ := by decide +kernel
theorem pd25 : parseMethodDescriptor "(B)Z" = some ⟨[.byte], some .boolean⟩ := by decide +kernel
theorem pd26 : parseMethodDescriptor "([II)[I" = some ⟨[(.array .int), .int], some (.array .int)⟩ := by decide +kernel
theorem layO5 {a0 : Array Value} {Z : State} (hw : Hw a0 Z) : LaidAll Z a0 "com/example/honest_errors/honesterrors/jsonschema/RegexProgram" [("com/example/honest_errors/honesterrors/jsonschema/RegexProgram", "op", "[B", (.array .byte)), ("com/example/honest_errors/honesterrors/jsonschema/RegexProgram", "next", "[I", (.array .int)), ("com/example/honest_errors/honesterrors/jsonschema/RegexProgram", "a", "[I", (.array .int)), ("com/example/honest_errors/honesterrors/jsonschema/RegexProgram", "b", "[I", (.array .int)), ("com/example/honest_errors/honesterrors/jsonschema/RegexProgram", "c", "[I", (.array .int)), ("com/example/honest_errors/honesterrors/jsonschema/RegexProgram", "d", "[I", (.array .int)), ("com/example/honest_errors/honesterrors/jsonschema/RegexProgram", "leaves", "[Lcom/example/honest_errors/honesterrors/jsonschema/RegexLeaf;", (.array (.object "com/example/honest_errors/honesterrors/jsonschema/RegexLeaf"))), ("com/example/honest_errors/honesterrors/jsonschema/RegexProgram", "entry", "I", .int), ("com/example/honest_errors/honesterrors/jsonschema/RegexProgram", "failures", "[I", (.array .int)), ("com/example/honest_errors/honesterrors/jsonschema/RegexProgram", "failureSets", "I", .int), ("com/example/honest_errors/honesterrors/jsonschema/RegexProgram", "groups", "I", .int), ("com/example/honest_errors/honesterrors/jsonschema/RegexProgram", "captures", "I", .int)] := ⟨⟨Or.inr (W0 hw 208 rfl), by decide⟩, ⟨⟨Or.inr (W0 hw 210 rfl), by decide⟩, ⟨⟨Or.inr (W0 hw 212 rfl), by decide⟩, ⟨⟨Or.inr (W0 hw 214 rfl), by decide⟩, ⟨⟨Or.inr (W0 hw 216 rfl), by decide⟩, ⟨⟨Or.inr (W0 hw 218 rfl), by decide⟩, ⟨⟨Or.inr (W0 hw 220 rfl), by decide⟩, ⟨⟨Or.inr (W0 hw 222 rfl), by decide⟩, ⟨⟨Or.inr (W0 hw 224 rfl), by decide⟩, ⟨⟨Or.inr (W0 hw 226 rfl), by decide⟩, ⟨⟨Or.inr (W0 hw 228 rfl), by decide⟩, ⟨⟨Or.inr (W0 hw 230 rfl), by decide⟩, trivial⟩⟩⟩⟩⟩⟩⟩⟩⟩⟩⟩⟩
theorem pd27 : parseMethodDescriptor "([BI)[B" = some ⟨[(.array .byte), .int], some (.array .byte)⟩ := by decide +kernel
theorem pd28 : parseMethodDescriptor "([Ljava/lang/Object;)[Ljava/lang/Object;" = some ⟨[(.array (.object "java/lang/Object"))], some (.array (.object "java/lang/Object"))⟩ := by decide +kernel
theorem pd29 : parseMethodDescriptor "([B[[I[Lcom/example/honest_errors/honesterrors/jsonschema/RegexLeaf;I[IIII)V" = some ⟨[(.array .byte), (.array (.array .int)), (.array (.object "com/example/honest_errors/honesterrors/jsonschema/RegexLeaf")), .int, (.array .int), .int, .int, .int], none⟩ := by decide +kernel
theorem finP (H : Hy a0 Z cst dce nona sfv) (o bo g0 l1 hm l2 ga gb gc gd ge : Addr) (cp : Int32) (f : Addr) :
    Con lch Z consts_1 Y53 prog_28_method_23_code 11 (Option.some (Jvm.ClassFile.FieldType.object "com/example/honest_errors/honesterrors/jsonschema/RegexProgram")) (rm 2 9 29 57) #[(.ref o), (.ref f), (.int 0), (.int 0)] [(o, O3 Z (.ref bo) (.ref g0) (.ref l1) (.ref hm) (.ref l2) (.int 1) (.int 0)), (bo, Ary Z .byte ((.int 1) :: (.int 0) :: (.int 0) :: z13)), (g0, Ary Z (.array .int) [(.ref ga), (.ref gb), (.ref gc), (.ref gd), (.ref ge)]), (ga, Ary Z .int ((.int (-1)) :: (.int 0) :: (.int 0) :: z13)), (gb, Ary Z .int ((.int cp) :: (.int 0) :: (.int 0) :: z13)), (gc, Ary Z .int ((.int 0) :: (.int 0) :: (.int 0) :: z13)), (gd, Ary Z .int ((.int 0) :: (.int 0) :: (.int 0) :: z13)), (ge, Ary Z .int ((.int 0) :: (.int 0) :: (.int 0) :: z13)), (f, O4 Z (.int 0) (.int 0) (.int 0) (.int ((-1 : Int32) - cp)) (.int 1) (.int 1) (.int 1) (.int 1) (.int 0)), (l1, O1 Z (.int 0) (.ref dce) (.int 0)), (l2, O1 Z (.int 0) (.ref dce) (.int 0))] []
      (fun rv L1 M1 => ∃ (pr : Addr), ∃ (po : Addr), ∃ (pn : Addr), ∃ (pa : Addr), ∃ (pb : Addr), ∃ (pcc : Addr), ∃ (pd : Addr), ∃ (plv : Addr), rv = some (.ref pr) ∧ L1 = [(o, O3 Z (.ref bo) (.ref g0) (.ref l1) (.ref hm) (.ref l2) (.int 2) (.int 0)), (bo, Ary Z .byte ((.int 1) :: (.int 21) :: (.int 0) :: z13)), (g0, Ary Z (.array .int) [(.ref ga), (.ref gb), (.ref gc), (.ref gd), (.ref ge)]), (ga, Ary Z .int ((.int 1) :: (.int (-1)) :: (.int 0) :: z13)), (gb, Ary Z .int ((.int cp) :: (.int 0) :: (.int 0) :: z13)), (gc, Ary Z .int ((.int 0) :: (.int 0) :: (.int 0) :: z13)), (gd, Ary Z .int ((.int 0) :: (.int 0) :: (.int 0) :: z13)), (ge, Ary Z .int ((.int 0) :: (.int 0) :: (.int 0) :: z13)), (f, O4 Z (.int 0) (.int (-1)) (.int (-1)) (.int ((-1 : Int32) - cp)) (.int 1) (.int 1) (.int 1) (.int 1) (.int 0)), (l1, O1 Z (.int 0) (.ref dce) (.int 0)), (l2, O1 Z (.int 0) (.ref dce) (.int 0)), (pr, O5 Z (.ref po) (.ref pn) (.ref pa) (.ref pb) (.ref pcc) (.ref pd) (.ref plv) (.int 0) .null (.int 0) (.int 0) (.int 0)), (po, Ary Z .byte [(.int 1), (.int 21)]), (pn, Ary Z .int [(.int 1), (.int (-1))]), (pa, Ary Z .int [(.int cp), (.int 0)]), (pb, Ary Z .int [(.int 0), (.int 0)]), (pcc, Ary Z .int [(.int 0), (.int 0)])] ∧ M1 = []) := by
  refine Con.ob #[vr o, vr f, vi 0, vi 0, us, us, us, us, us, us, us] (plainFor_of_name pn11) ?_
  intro p e s m below meth c T0 h0 C S0
  refine C.a1 S0 (D53 0 rfl) rfl rfl <| C.a1 S0 (D53 1 rfl) rfl rfl <| C.xp (y' := Y39) S0 (S0.exa 0 rfl) (W H 142 rfl) (W H 143 rfl) (W H 92 rfl) (W H 93 rfl) (W H 144 rfl) (W H 32 rfl) (W H 145 rfl) (progP H o bo g0 l1 hm l2 ga gb gc gd ge cp f) (D53 2 rfl) pd24 [(.ref f)] [] [0, 1, 2, 3, 4, 5, 6, 7, 8] rl0 ?_
  rintro T1 _ _ _ ⟨rfl, rfl, rfl⟩ hro1 S1
  replace S1 := S1.nc (L' := [(o, O3 Z (.ref bo) (.ref g0) (.ref l1) (.ref hm) (.ref l2) (.int 2) (.int 0)), (bo, Ary Z .byte ((.int 1) :: (.int 21) :: (.int 0) :: z13)), (g0, Ary Z (.array .int) [(.ref ga), (.ref gb), (.ref gc), (.ref gd), (.ref ge)]), (ga, Ary Z .int ((.int 1) :: (.int (-1)) :: (.int 0) :: z13)), (gb, Ary Z .int ((.int cp) :: (.int 0) :: (.int 0) :: z13)), (gc, Ary Z .int ((.int 0) :: (.int 0) :: (.int 0) :: z13)), (gd, Ary Z .int ((.int 0) :: (.int 0) :: (.int 0) :: z13)), (ge, Ary Z .int ((.int 0) :: (.int 0) :: (.int 0) :: z13)), (f, O4 Z (.int 0) (.int (-1)) (.int (-1)) (.int ((-1 : Int32) - cp)) (.int 1) (.int 1) (.int 1) (.int 1) (.int 0)), (l1, O1 Z (.int 0) (.ref dce) (.int 0)), (l2, O1 Z (.int 0) (.ref dce) (.int 0))]) rfl
  refine C.istore S1 (D53 3 rfl) 7 rfl #[vr o, vr f, vi 0, vi 0, vi 0, us, us, us, us, us, us] rfl <| C.i1 S1 (D53 4 rfl) rfl <| C.if_neF S1 (D53 5 rfl) 11 rfl (by decide) <| C.k1 S1 (D53 6 rfl) 0 rfl <| C.istore S1 (D53 7 rfl) 14 rfl #[vr o, vr f, vi 0, vi 0, vi 0, vi 0, us, us, us, us, us] rfl <| C.i2 S1 (D53 8 rfl) rfl <| C.a1 S1 (D53 9 rfl) rfl rfl <| C.gl S1 (W H 99 rfl) (D53 10 rfl) 0 rfl 5 rfl fun T3 S3 => C.icmp_geF S3 (D53 11 rfl) 23 rfl (by decide) <| C.a1 S3 (D53 12 rfl) rfl rfl <| C.gl S3 (W H 37 rfl) (D53 13 rfl) 0 rfl 0 rfl fun T5 S5 => C.i2 S5 (D53 14 rfl) rfl <| C.baload S5 (S5.at 1 rfl) (D53 15 rfl) 30 rfl (by decide) 0 rfl rfl <| C.k2 S5 (D53 16 rfl) 10 rfl <| C.icmp_eqF S5 (D53 17 rfl) 35 rfl (by decide) <| C.a1 S5 (D53 18 rfl) rfl rfl <| C.gl S5 (W H 37 rfl) (D53 19 rfl) 0 rfl 0 rfl fun T7 S7 => C.i2 S7 (D53 20 rfl) rfl <| C.baload S7 (S7.at 1 rfl) (D53 21 rfl) 42 rfl (by decide) 0 rfl rfl ?_
  refine C.k2 S7 (D53 22 rfl) 11 rfl <| C.icmp_neT S7 (D53 23 rfl) 56 rfl (by decide) <| C.iinc S7 (D53 24 rfl) 59 rfl rfl 1 1 rfl (by decide) #[vr o, vr f, vi 0, vi 0, vi 0, vi 1, us, us, us, us, us] rfl <| C.g S7 (D53 25 rfl) 14 rfl <| C.i2 S7 (D53 8 rfl) rfl <| C.a1 S7 (D53 9 rfl) rfl rfl <| C.gl S7 (W H 99 rfl) (D53 10 rfl) 0 rfl 5 rfl fun T9 S9 => C.icmp_geF S9 (D53 11 rfl) 23 rfl (by decide) <| C.a1 S9 (D53 12 rfl) rfl rfl <| C.gl S9 (W H 37 rfl) (D53 13 rfl) 0 rfl 0 rfl fun T11 S11 => C.i2 S11 (D53 14 rfl) rfl <| C.baload S11 (S11.at 1 rfl) (D53 15 rfl) 30 rfl (by decide) 1 rfl rfl <| C.k2 S11 (D53 16 rfl) 10 rfl <| C.icmp_eqF S11 (D53 17 rfl) 35 rfl (by decide) <| C.a1 S11 (D53 18 rfl) rfl rfl <| C.gl S11 (W H 37 rfl) (D53 19 rfl) 0 rfl 0 rfl fun T13 S13 => C.i2 S13 (D53 20 rfl) rfl <| C.baload S13 (S13.at 1 rfl) (D53 21 rfl) 42 rfl (by decide) 1 rfl rfl <| C.k2 S13 (D53 22 rfl) 11 rfl ?_
  refine C.icmp_neT S13 (D53 23 rfl) 56 rfl (by decide) <| C.iinc S13 (D53 24 rfl) 59 rfl rfl 2 1 rfl (by decide) #[vr o, vr f, vi 0, vi 0, vi 0, vi 2, us, us, us, us, us] rfl <| C.g S13 (D53 25 rfl) 14 rfl <| C.i2 S13 (D53 8 rfl) rfl <| C.a1 S13 (D53 9 rfl) rfl rfl <| C.gl S13 (W H 99 rfl) (D53 10 rfl) 0 rfl 5 rfl fun T15 S15 => C.icmp_geT S15 (D53 11 rfl) 62 rfl (by decide) <| C.a1 S15 (D53 26 rfl) rfl rfl <| C.i2 S15 (D53 27 rfl) rfl <| C.xp (y' := Y39) S15 (S15.exa 0 rfl) (W H 150 rfl) (W H 151 rfl) (W H 92 rfl) (W H 93 rfl) (W H 152 rfl) (W H 32 rfl) (W H 153 rfl) (skP0 H o bo g0 l1 hm l2) (D53 28 rfl) pd0 [(.int 0)] [] [] (rlN (S15.at 0 rfl) (rlN (S15.at 1 rfl) rl0)) ?_
  rintro T17 _ _ _ ⟨rfl, rfl, rfl⟩ hro17 S17
  replace S17 := S17.n0
  refine C.istore S17 (D53 29 rfl) 70 rfl #[vr o, vr f, vi 0, vi 0, vi 0, vi 2, us, us, us, us, us] rfl <| C.k1 S17 (D53 30 rfl) 0 rfl <| C.istore S17 (D53 31 rfl) 73 rfl #[vr o, vr f, vi 0, vi 0, vi 0, vi 0, us, us, us, us, us] rfl <| C.i2 S17 (D53 32 rfl) rfl <| C.a1 S17 (D53 33 rfl) rfl rfl <| C.gl S17 (W H 99 rfl) (D53 34 rfl) 0 rfl 5 rfl fun T18 S18 => C.icmp_geF S18 (D53 35 rfl) 82 rfl (by decide) <| C.a1 S18 (D53 36 rfl) rfl rfl <| C.gl S18 (W H 42 rfl) (D53 37 rfl) 0 rfl 1 rfl fun T20 S20 => C.k1 S20 (D53 38 rfl) 0 rfl <| C.aaload S20 (S20.at 2 rfl) rfl (D53 39 rfl) 88 rfl (by decide) 0 rfl rfl <| C.i2 S20 (D53 40 rfl) rfl <| C.a1 S20 (D53 41 rfl) rfl rfl <| C.a1 S20 (D53 42 rfl) rfl rfl <| C.gl S20 (W H 42 rfl) (D53 43 rfl) 0 rfl 1 rfl fun T21 S21 => C.k1 S21 (D53 44 rfl) 0 rfl <| C.aaload S21 (S21.at 2 rfl) rfl (D53 45 rfl) 97 rfl (by decide) 0 rfl rfl <| C.i2 S21 (D53 46 rfl) rfl ?_
  refine C.iaload S21 (S21.at 3 rfl) (D53 47 rfl) 100 rfl (by decide) 0 rfl rfl <| C.xp (y' := Y39) S21 (S21.exa 0 rfl) (W H 150 rfl) (W H 151 rfl) (W H 92 rfl) (W H 93 rfl) (W H 152 rfl) (W H 32 rfl) (W H 153 rfl) (skP1 H o bo g0 l1 hm l2) (D53 48 rfl) pd0 [(.int 1)] [(.int 0), (.ref ga)] [] (rlN (S21.at 0 rfl) (rlN (S21.at 1 rfl) rl0)) ?_
  rintro T22 _ _ _ ⟨rfl, rfl, rfl⟩ hro22 S22
  replace S22 := S22.n0
  refine C.iastore S22 3 rfl (D53 49 rfl) 104 rfl (by decide) 0 rfl (leD rfl) (1 : Int32) rfl fun T23 S23 => C.a1 S23 (D53 50 rfl) rfl rfl <| C.gl S23 (W H 37 rfl) (D53 51 rfl) 0 rfl 0 rfl fun T24 S24 => C.i2 S24 (D53 52 rfl) rfl <| C.baload S24 (S24.at 1 rfl) (D53 53 rfl) 111 rfl (by decide) 0 rfl rfl <| C.xs S24 (W H 154 rfl) (W H 155 rfl) (W H 32 rfl) (W H 156 rfl) (lead1 H) (D53 54 rfl) pd25 [(.int 1)] [] [] rl0 ?_
  rintro T25 _ _ _ ⟨rfl, rfl, rfl⟩ hro25 S25
  replace S25 := S25.n0
  refine C.if_eqT S25 (D53 55 rfl) 139 rfl (by decide) <| C.iinc S25 (D53 56 rfl) 142 rfl rfl 1 1 rfl (by decide) #[vr o, vr f, vi 0, vi 0, vi 0, vi 1, us, us, us, us, us] rfl <| C.g S25 (D53 57 rfl) 73 rfl <| C.i2 S25 (D53 32 rfl) rfl <| C.a1 S25 (D53 33 rfl) rfl rfl <| C.gl S25 (W H 99 rfl) (D53 34 rfl) 0 rfl 5 rfl fun T27 S27 => C.icmp_geF S27 (D53 35 rfl) 82 rfl (by decide) <| C.a1 S27 (D53 36 rfl) rfl rfl <| C.gl S27 (W H 42 rfl) (D53 37 rfl) 0 rfl 1 rfl fun T29 S29 => C.k1 S29 (D53 38 rfl) 0 rfl <| C.aaload S29 (S29.at 2 rfl) rfl (D53 39 rfl) 88 rfl (by decide) 0 rfl rfl <| C.i2 S29 (D53 40 rfl) rfl <| C.a1 S29 (D53 41 rfl) rfl rfl <| C.a1 S29 (D53 42 rfl) rfl rfl <| C.gl S29 (W H 42 rfl) (D53 43 rfl) 0 rfl 1 rfl fun T30 S30 => C.k1 S30 (D53 44 rfl) 0 rfl <| C.aaload S30 (S30.at 2 rfl) rfl (D53 45 rfl) 97 rfl (by decide) 0 rfl rfl <| C.i2 S30 (D53 46 rfl) rfl <| C.iaload S30 (S30.at 3 rfl) (D53 47 rfl) 100 rfl (by decide) 1 rfl rfl ?_
  refine C.xp (y' := Y39) S30 (S30.exa 0 rfl) (W H 150 rfl) (W H 151 rfl) (W H 92 rfl) (W H 93 rfl) (W H 152 rfl) (W H 32 rfl) (W H 153 rfl) (skN H o) (D53 48 rfl) pd0 [(.int (-1))] [(.int 1), (.ref ga)] [] rl0 ?_
  rintro T31 _ _ _ ⟨rfl, rfl, rfl⟩ hro31 S31
  replace S31 := S31.n0
  refine C.iastore S31 3 rfl (D53 49 rfl) 104 rfl (by decide) 1 rfl (leD rfl) (-1 : Int32) rfl fun T32 S32 => C.a1 S32 (D53 50 rfl) rfl rfl <| C.gl S32 (W H 37 rfl) (D53 51 rfl) 0 rfl 0 rfl fun T33 S33 => C.i2 S33 (D53 52 rfl) rfl <| C.baload S33 (S33.at 1 rfl) (D53 53 rfl) 111 rfl (by decide) 1 rfl rfl <| C.xs S33 (W H 154 rfl) (W H 155 rfl) (W H 32 rfl) (W H 156 rfl) (lead21 H) (D53 54 rfl) pd25 [(.int 21)] [] [] rl0 ?_
  rintro T34 _ _ _ ⟨rfl, rfl, rfl⟩ hro34 S34
  replace S34 := S34.n0
  refine C.if_eqT S34 (D53 55 rfl) 139 rfl (by decide) <| C.iinc S34 (D53 56 rfl) 142 rfl rfl 2 1 rfl (by decide) #[vr o, vr f, vi 0, vi 0, vi 0, vi 2, us, us, us, us, us] rfl <| C.g S34 (D53 57 rfl) 73 rfl <| C.i2 S34 (D53 32 rfl) rfl <| C.a1 S34 (D53 33 rfl) rfl rfl <| C.gl S34 (W H 99 rfl) (D53 34 rfl) 0 rfl 5 rfl fun T36 S36 => C.icmp_geT S36 (D53 35 rfl) 145 rfl (by decide) <| C.aconstNull S36 (D53 58 rfl) 146 rfl <| C.astore S36 (D53 59 rfl) 148 rfl rfl #[vr o, vr f, vi 0, vi 0, vi 0, .val .null, us, us, us, us, us] rfl <| C.i1 S36 (D53 60 rfl) rfl <| C.if_neF S36 (D53 61 rfl) 152 rfl (by decide) <| C.a1 S36 (D53 62 rfl) rfl rfl <| C.gl S36 (W H 88 rfl) (D53 63 rfl) 0 rfl 4 rfl fun T39 S39 => C.xf S39 (S39.exa 10 rfl) (W H 157 rfl) (W H 158 rfl) (W H 159 rfl) rfl (W H 160 rfl) (W H 161 rfl) (W H 162 rfl) (W H 163 rfl) (W H 164 rfl) (W H 46 rfl) (W H 165 rfl) (alEmp H l2) (D53 64 rfl) pd11 [] [] [] (rlN (S39.at 10 rfl) rl0) ?_
  rintro T40 _ _ _ ⟨rfl, rfl, rfl⟩ hro40 S40
  replace S40 := S40.n0
  refine C.if_neT S40 (D53 65 rfl) 252 rfl (by decide) <| C.k1 S40 (D53 66 rfl) 5 rfl <| C.anewarrayA (ty := .int) S40 (by decide) (W H 168 rfl) (W H 40 rfl) (D53 67 rfl) 256 rfl (by decide) 5 rfl 5 (leD rfl) (by decide) (leD rfl) (leD rfl) fun T42 b42 S42 => C.astore S42 (D53 68 rfl) 258 rfl rfl #[vr o, vr f, vi 0, vi 0, vi 0, .val .null, vr b42, us, us, us, us] rfl <| C.k1 S42 (D53 69 rfl) 0 rfl <| C.istore S42 (D53 70 rfl) 261 rfl #[vr o, vr f, vi 0, vi 0, vi 0, .val .null, vr b42, vi 0, us, us, us] rfl <| C.i2 S42 (D53 71 rfl) rfl <| C.k1 S42 (D53 72 rfl) 5 rfl <| C.icmp_geF S42 (D53 73 rfl) 267 rfl (by decide) <| C.a2 S42 (D53 74 rfl) rfl rfl <| C.i2 S42 (D53 75 rfl) rfl <| C.a1 S42 (D53 76 rfl) rfl rfl <| C.gl S42 (W H 42 rfl) (D53 77 rfl) 0 rfl 1 rfl fun T44 S44 => C.i2 S44 (D53 78 rfl) rfl <| C.aaload S44 (S44.at 2 rfl) rfl (D53 79 rfl) 278 rfl (by decide) 0 rfl rfl <| C.a1 S44 (D53 80 rfl) rfl rfl ?_
  refine C.gl S44 (W H 99 rfl) (D53 81 rfl) 0 rfl 5 rfl fun T45 S45 => C.xs S45 (W H 169 rfl) (W H 170 rfl) (W H 171 rfl) (W H 172 rfl) (cpI2 H ga (1 : Int32) (-1 : Int32) (0 : Int32)) (D53 82 rfl) pd26 [(.ref ga), (.int 2)] [(.int 0), (.ref b42)] [] (rlN (S45.at 3 rfl) rl0) ?_
  rintro T46 _ _ _ ⟨w47, rfl, rfl, rfl⟩ hro46 S46
  replace S46 := S46.na
  refine C.aastoreA S46 11 rfl (aryx_exa (S46.at 12 rfl)) (D53 83 rfl) 286 rfl (by decide) 0 rfl (leD rfl) fun T48 S48 => ?_
  replace S48 := S48.asL (L' := [(o, O3 Z (.ref bo) (.ref g0) (.ref l1) (.ref hm) (.ref l2) (.int 2) (.int 0)), (bo, Ary Z .byte ((.int 1) :: (.int 21) :: (.int 0) :: z13)), (g0, Ary Z (.array .int) [(.ref ga), (.ref gb), (.ref gc), (.ref gd), (.ref ge)]), (ga, Ary Z .int ((.int 1) :: (.int (-1)) :: (.int 0) :: z13)), (gb, Ary Z .int ((.int cp) :: (.int 0) :: (.int 0) :: z13)), (gc, Ary Z .int ((.int 0) :: (.int 0) :: (.int 0) :: z13)), (gd, Ary Z .int ((.int 0) :: (.int 0) :: (.int 0) :: z13)), (ge, Ary Z .int ((.int 0) :: (.int 0) :: (.int 0) :: z13)), (f, O4 Z (.int 0) (.int (-1)) (.int (-1)) (.int ((-1 : Int32) - cp)) (.int 1) (.int 1) (.int 1) (.int 1) (.int 0)), (l1, O1 Z (.int 0) (.ref dce) (.int 0)), (l2, O1 Z (.int 0) (.ref dce) (.int 0)), (b42, AryRA Z .int "[I" [(.ref w47), .null, .null, .null, .null]), (w47, AryX Z "[I" .int [(.int 1), (.int (-1))])]) rfl
  have S49 := S48.imp 12 rfl (P' := Ary Z .int [(.int 1), (.int (-1))]) (fun _ q => q.1)
  refine C.iinc S49 (D53 84 rfl) 289 rfl rfl 1 1 rfl (by decide) #[vr o, vr f, vi 0, vi 0, vi 0, .val .null, vr b42, vi 1, us, us, us] rfl <| C.g S49 (D53 85 rfl) 261 rfl <| C.i2 S49 (D53 71 rfl) rfl <| C.k1 S49 (D53 72 rfl) 5 rfl <| C.icmp_geF S49 (D53 73 rfl) 267 rfl (by decide) <| C.a2 S49 (D53 74 rfl) rfl rfl <| C.i2 S49 (D53 75 rfl) rfl <| C.a1 S49 (D53 76 rfl) rfl rfl <| C.gl S49 (W H 42 rfl) (D53 77 rfl) 0 rfl 1 rfl fun T51 S51 => C.i2 S51 (D53 78 rfl) rfl <| C.aaload S51 (S51.at 2 rfl) rfl (D53 79 rfl) 278 rfl (by decide) 1 rfl rfl <| C.a1 S51 (D53 80 rfl) rfl rfl <| C.gl S51 (W H 99 rfl) (D53 81 rfl) 0 rfl 5 rfl fun T52 S52 => C.xs S52 (W H 169 rfl) (W H 170 rfl) (W H 171 rfl) (W H 172 rfl) (cpI2 H gb cp (0 : Int32) (0 : Int32)) (D53 82 rfl) pd26 [(.ref gb), (.int 2)] [(.int 1), (.ref b42)] [] (rlN (S52.at 4 rfl) rl0) ?_
  rintro T53 _ _ _ ⟨w54, rfl, rfl, rfl⟩ hro53 S53
  replace S53 := S53.na
  refine C.aastoreA S53 11 rfl (aryx_exa (S53.at 13 rfl)) (D53 83 rfl) 286 rfl (by decide) 1 rfl (leD rfl) fun T55 S55 => ?_
  have S56 := S55.imp 13 rfl (P' := Ary Z .int [(.int cp), (.int 0)]) (fun _ q => q.1)
  refine C.iinc S56 (D53 84 rfl) 289 rfl rfl 2 1 rfl (by decide) #[vr o, vr f, vi 0, vi 0, vi 0, .val .null, vr b42, vi 2, us, us, us] rfl <| C.g S56 (D53 85 rfl) 261 rfl <| C.i2 S56 (D53 71 rfl) rfl <| C.k1 S56 (D53 72 rfl) 5 rfl <| C.icmp_geF S56 (D53 73 rfl) 267 rfl (by decide) <| C.a2 S56 (D53 74 rfl) rfl rfl <| C.i2 S56 (D53 75 rfl) rfl <| C.a1 S56 (D53 76 rfl) rfl rfl <| C.gl S56 (W H 42 rfl) (D53 77 rfl) 0 rfl 1 rfl fun T58 S58 => C.i2 S58 (D53 78 rfl) rfl <| C.aaload S58 (S58.at 2 rfl) rfl (D53 79 rfl) 278 rfl (by decide) 2 rfl rfl <| C.a1 S58 (D53 80 rfl) rfl rfl <| C.gl S58 (W H 99 rfl) (D53 81 rfl) 0 rfl 5 rfl fun T59 S59 => C.xs S59 (W H 169 rfl) (W H 170 rfl) (W H 171 rfl) (W H 172 rfl) (cpI2 H gc (0 : Int32) (0 : Int32) (0 : Int32)) (D53 82 rfl) pd26 [(.ref gc), (.int 2)] [(.int 2), (.ref b42)] [] (rlN (S59.at 5 rfl) rl0) ?_
  rintro T60 _ _ _ ⟨w61, rfl, rfl, rfl⟩ hro60 S60
  replace S60 := S60.na
  replace S60 := S60.asL (L' := [(o, O3 Z (.ref bo) (.ref g0) (.ref l1) (.ref hm) (.ref l2) (.int 2) (.int 0)), (bo, Ary Z .byte ((.int 1) :: (.int 21) :: (.int 0) :: z13)), (g0, Ary Z (.array .int) [(.ref ga), (.ref gb), (.ref gc), (.ref gd), (.ref ge)]), (ga, Ary Z .int ((.int 1) :: (.int (-1)) :: (.int 0) :: z13)), (gb, Ary Z .int ((.int cp) :: (.int 0) :: (.int 0) :: z13)), (gc, Ary Z .int ((.int 0) :: (.int 0) :: (.int 0) :: z13)), (gd, Ary Z .int ((.int 0) :: (.int 0) :: (.int 0) :: z13)), (ge, Ary Z .int ((.int 0) :: (.int 0) :: (.int 0) :: z13)), (f, O4 Z (.int 0) (.int (-1)) (.int (-1)) (.int ((-1 : Int32) - cp)) (.int 1) (.int 1) (.int 1) (.int 1) (.int 0)), (l1, O1 Z (.int 0) (.ref dce) (.int 0)), (l2, O1 Z (.int 0) (.ref dce) (.int 0)), (b42, AryRA Z .int "[I" [(.ref w47), (.ref w54), .null, .null, .null]), (w47, Ary Z .int [(.int 1), (.int (-1))]), (w54, Ary Z .int [(.int cp), (.int 0)]), (w61, AryX Z "[I" .int [(.int 0), (.int 0)])]) rfl
  refine C.aastoreA S60 11 rfl (aryx_exa (S60.at 14 rfl)) (D53 83 rfl) 286 rfl (by decide) 2 rfl (leD rfl) fun T62 S62 => ?_
  have S63 := S62.imp 14 rfl (P' := Ary Z .int [(.int 0), (.int 0)]) (fun _ q => q.1)
  refine C.iinc S63 (D53 84 rfl) 289 rfl rfl 3 1 rfl (by decide) #[vr o, vr f, vi 0, vi 0, vi 0, .val .null, vr b42, vi 3, us, us, us] rfl <| C.g S63 (D53 85 rfl) 261 rfl <| C.i2 S63 (D53 71 rfl) rfl <| C.k1 S63 (D53 72 rfl) 5 rfl <| C.icmp_geF S63 (D53 73 rfl) 267 rfl (by decide) <| C.a2 S63 (D53 74 rfl) rfl rfl <| C.i2 S63 (D53 75 rfl) rfl <| C.a1 S63 (D53 76 rfl) rfl rfl <| C.gl S63 (W H 42 rfl) (D53 77 rfl) 0 rfl 1 rfl fun T65 S65 => C.i2 S65 (D53 78 rfl) rfl <| C.aaload S65 (S65.at 2 rfl) rfl (D53 79 rfl) 278 rfl (by decide) 3 rfl rfl <| C.a1 S65 (D53 80 rfl) rfl rfl <| C.gl S65 (W H 99 rfl) (D53 81 rfl) 0 rfl 5 rfl fun T66 S66 => C.xs S66 (W H 169 rfl) (W H 170 rfl) (W H 171 rfl) (W H 172 rfl) (cpI2 H gd (0 : Int32) (0 : Int32) (0 : Int32)) (D53 82 rfl) pd26 [(.ref gd), (.int 2)] [(.int 3), (.ref b42)] [] (rlN (S66.at 6 rfl) rl0) ?_
  rintro T67 _ _ _ ⟨w68, rfl, rfl, rfl⟩ hro67 S67
  replace S67 := S67.na
  refine C.aastoreA S67 11 rfl (aryx_exa (S67.at 15 rfl)) (D53 83 rfl) 286 rfl (by decide) 3 rfl (leD rfl) fun T69 S69 => ?_
  have S70 := S69.imp 15 rfl (P' := Ary Z .int [(.int 0), (.int 0)]) (fun _ q => q.1)
  replace S70 := S70.asL (L' := [(o, O3 Z (.ref bo) (.ref g0) (.ref l1) (.ref hm) (.ref l2) (.int 2) (.int 0)), (bo, Ary Z .byte ((.int 1) :: (.int 21) :: (.int 0) :: z13)), (g0, Ary Z (.array .int) [(.ref ga), (.ref gb), (.ref gc), (.ref gd), (.ref ge)]), (ga, Ary Z .int ((.int 1) :: (.int (-1)) :: (.int 0) :: z13)), (gb, Ary Z .int ((.int cp) :: (.int 0) :: (.int 0) :: z13)), (gc, Ary Z .int ((.int 0) :: (.int 0) :: (.int 0) :: z13)), (gd, Ary Z .int ((.int 0) :: (.int 0) :: (.int 0) :: z13)), (ge, Ary Z .int ((.int 0) :: (.int 0) :: (.int 0) :: z13)), (f, O4 Z (.int 0) (.int (-1)) (.int (-1)) (.int ((-1 : Int32) - cp)) (.int 1) (.int 1) (.int 1) (.int 1) (.int 0)), (l1, O1 Z (.int 0) (.ref dce) (.int 0)), (l2, O1 Z (.int 0) (.ref dce) (.int 0)), (b42, AryRA Z .int "[I" [(.ref w47), (.ref w54), (.ref w61), (.ref w68), .null]), (w47, Ary Z .int [(.int 1), (.int (-1))]), (w54, Ary Z .int [(.int cp), (.int 0)]), (w61, Ary Z .int [(.int 0), (.int 0)]), (w68, Ary Z .int [(.int 0), (.int 0)])]) rfl
  refine C.iinc S70 (D53 84 rfl) 289 rfl rfl 4 1 rfl (by decide) #[vr o, vr f, vi 0, vi 0, vi 0, .val .null, vr b42, vi 4, us, us, us] rfl <| C.g S70 (D53 85 rfl) 261 rfl <| C.i2 S70 (D53 71 rfl) rfl <| C.k1 S70 (D53 72 rfl) 5 rfl <| C.icmp_geF S70 (D53 73 rfl) 267 rfl (by decide) <| C.a2 S70 (D53 74 rfl) rfl rfl <| C.i2 S70 (D53 75 rfl) rfl <| C.a1 S70 (D53 76 rfl) rfl rfl <| C.gl S70 (W H 42 rfl) (D53 77 rfl) 0 rfl 1 rfl fun T72 S72 => C.i2 S72 (D53 78 rfl) rfl <| C.aaload S72 (S72.at 2 rfl) rfl (D53 79 rfl) 278 rfl (by decide) 4 rfl rfl <| C.a1 S72 (D53 80 rfl) rfl rfl <| C.gl S72 (W H 99 rfl) (D53 81 rfl) 0 rfl 5 rfl fun T73 S73 => C.xs S73 (W H 169 rfl) (W H 170 rfl) (W H 171 rfl) (W H 172 rfl) (cpI2 H ge (0 : Int32) (0 : Int32) (0 : Int32)) (D53 82 rfl) pd26 [(.ref ge), (.int 2)] [(.int 4), (.ref b42)] [] (rlN (S73.at 7 rfl) rl0) ?_
  rintro T74 _ _ _ ⟨w75, rfl, rfl, rfl⟩ hro74 S74
  replace S74 := S74.na
  refine C.aastoreA S74 11 rfl (aryx_exa (S74.at 16 rfl)) (D53 83 rfl) 286 rfl (by decide) 4 rfl (leD rfl) fun T76 S76 => ?_
  have S77 := S76.imp 16 rfl (P' := Ary Z .int [(.int 0), (.int 0)]) (fun _ q => q.1)
  refine C.iinc S77 (D53 84 rfl) 289 rfl rfl 5 1 rfl (by decide) #[vr o, vr f, vi 0, vi 0, vi 0, .val .null, vr b42, vi 5, us, us, us] rfl <| C.g S77 (D53 85 rfl) 261 rfl <| C.i2 S77 (D53 71 rfl) rfl <| C.k1 S77 (D53 72 rfl) 5 rfl <| C.icmp_geT S77 (D53 73 rfl) 292 rfl (by decide) <| C.new S77 (W H 182 rfl) (W H 183 rfl) (W H 184 rfl) (D53 86 rfl) (layO5 H.1) (by decide) 295 rfl (leD rfl) (leD rfl) fun T79 b79 S79 => C.dup S79 (D53 87 rfl) 296 rfl rfl <| C.a1 S79 (D53 88 rfl) rfl rfl <| C.gl S79 (W H 37 rfl) (D53 89 rfl) 0 rfl 0 rfl fun T80 S80 => C.a1 S80 (D53 90 rfl) rfl rfl <| C.gl S80 (W H 99 rfl) (D53 91 rfl) 0 rfl 5 rfl fun T81 S81 => C.xs S81 (W H 185 rfl) (W H 186 rfl) (W H 171 rfl) (W H 187 rfl) (cpB2 H bo (1 : Int32) (21 : Int32) (0 : Int32)) (D53 92 rfl) pd27 [(.ref bo), (.int 2)] [(.ref b79), (.ref b79)] [] (rlN (S81.at 1 rfl) rl0) ?_
  rintro T82 _ _ _ ⟨w83, rfl, rfl, rfl⟩ hro82 S82
  replace S82 := S82.na
  replace S82 := S82.asL (L' := [(o, O3 Z (.ref bo) (.ref g0) (.ref l1) (.ref hm) (.ref l2) (.int 2) (.int 0)), (bo, Ary Z .byte ((.int 1) :: (.int 21) :: (.int 0) :: z13)), (g0, Ary Z (.array .int) [(.ref ga), (.ref gb), (.ref gc), (.ref gd), (.ref ge)]), (ga, Ary Z .int ((.int 1) :: (.int (-1)) :: (.int 0) :: z13)), (gb, Ary Z .int ((.int cp) :: (.int 0) :: (.int 0) :: z13)), (gc, Ary Z .int ((.int 0) :: (.int 0) :: (.int 0) :: z13)), (gd, Ary Z .int ((.int 0) :: (.int 0) :: (.int 0) :: z13)), (ge, Ary Z .int ((.int 0) :: (.int 0) :: (.int 0) :: z13)), (f, O4 Z (.int 0) (.int (-1)) (.int (-1)) (.int ((-1 : Int32) - cp)) (.int 1) (.int 1) (.int 1) (.int 1) (.int 0)), (l1, O1 Z (.int 0) (.ref dce) (.int 0)), (l2, O1 Z (.int 0) (.ref dce) (.int 0)), (b42, AryRA Z .int "[I" [(.ref w47), (.ref w54), (.ref w61), (.ref w68), (.ref w75)]), (w47, Ary Z .int [(.int 1), (.int (-1))]), (w54, Ary Z .int [(.int cp), (.int 0)]), (w61, Ary Z .int [(.int 0), (.int 0)]), (w68, Ary Z .int [(.int 0), (.int 0)]), (w75, Ary Z .int [(.int 0), (.int 0)]), (b79, O5 Z .null .null .null .null .null .null .null (.int 0) .null (.int 0) (.int 0) (.int 0)), (w83, Ary Z .byte [(.int 1), (.int 21)])]) rfl
  refine C.a2 S82 (D53 93 rfl) rfl rfl <| C.a1 S82 (D53 94 rfl) rfl rfl <| C.gl S82 (W H 68 rfl) (D53 95 rfl) 0 rfl 2 rfl fun T84 S84 => C.k1 S84 (D53 96 rfl) 0 rfl <| C.anewarrayX S84 (ad := "[Lcom/example/honest_errors/honesterrors/jsonschema/RegexLeaf;") (by decide) (W H 188 rfl) (W H 189 rfl) (D53 97 rfl) 317 rfl (by decide) 0 rfl 0 (leD rfl) (by decide) (leD rfl) (leD rfl) fun T85 b85 S85 => C.xf S85 (S85.exa 9 rfl) (W H 190 rfl) (W H 191 rfl) (W H 192 rfl) rfl (W H 193 rfl) (W H 194 rfl) (W H 195 rfl) (W H 196 rfl) (W H 164 rfl) (W H 46 rfl) (W H 197 rfl) (toArr H l1 b85) (D53 98 rfl) pd28 [(.ref b85)] [(.ref b42), (.ref w83), (.ref b79), (.ref b79)] [9, 19] rl0 ?_
  rintro T86 _ _ _ ⟨rfl, rfl, rfl⟩ hro86 S86
  replace S86 := S86.nc (L' := [(o, O3 Z (.ref bo) (.ref g0) (.ref l1) (.ref hm) (.ref l2) (.int 2) (.int 0)), (bo, Ary Z .byte ((.int 1) :: (.int 21) :: (.int 0) :: z13)), (g0, Ary Z (.array .int) [(.ref ga), (.ref gb), (.ref gc), (.ref gd), (.ref ge)]), (ga, Ary Z .int ((.int 1) :: (.int (-1)) :: (.int 0) :: z13)), (gb, Ary Z .int ((.int cp) :: (.int 0) :: (.int 0) :: z13)), (gc, Ary Z .int ((.int 0) :: (.int 0) :: (.int 0) :: z13)), (gd, Ary Z .int ((.int 0) :: (.int 0) :: (.int 0) :: z13)), (ge, Ary Z .int ((.int 0) :: (.int 0) :: (.int 0) :: z13)), (f, O4 Z (.int 0) (.int (-1)) (.int (-1)) (.int ((-1 : Int32) - cp)) (.int 1) (.int 1) (.int 1) (.int 1) (.int 0)), (l1, O1 Z (.int 0) (.ref dce) (.int 0)), (l2, O1 Z (.int 0) (.ref dce) (.int 0)), (b42, AryRA Z .int "[I" [(.ref w47), (.ref w54), (.ref w61), (.ref w68), (.ref w75)]), (w47, Ary Z .int [(.int 1), (.int (-1))]), (w54, Ary Z .int [(.int cp), (.int 0)]), (w61, Ary Z .int [(.int 0), (.int 0)]), (w68, Ary Z .int [(.int 0), (.int 0)]), (w75, Ary Z .int [(.int 0), (.int 0)]), (b79, O5 Z .null .null .null .null .null .null .null (.int 0) .null (.int 0) (.int 0) (.int 0)), (w83, Ary Z .byte [(.int 1), (.int 21)]), (b85, AryRX Z "[Lcom/example/honest_errors/honesterrors/jsonschema/RegexLeaf;" "com/example/honest_errors/honesterrors/jsonschema/RegexLeaf" [])]) rfl
  refine C.checkcast S86 (W H 199 rfl) (Ins.self (aryrx_exa (S86.at 19 rfl))) (D53 99 rfl) 325 rfl fun T87 S87 => C.i2 S87 (D53 100 rfl) rfl <| C.a2 S87 (D53 101 rfl) rfl rfl <| C.a2 S87 (D53 102 rfl) rfl rfl <| C.ifnonnullNo S87 (D53 103 rfl) 334 rfl <| C.k1 S87 (D53 104 rfl) 0 rfl <| C.g S87 (D53 105 rfl) 347 rfl <| C.i1 S87 (D53 106 rfl) rfl <| C.a1 S87 (D53 107 rfl) rfl rfl <| C.gl S87 (W H 201 rfl) (D53 108 rfl) 0 rfl 6 rfl fun T88 S88 => C.xi (a := b79) S88 (W H 203 rfl) (W H 204 rfl) (W H 184 rfl) (W H 205 rfl) (prInit H b79 w83 w47 w54 w61 w68 w75 b85 b42 (0 : Int32)) (D53 109 rfl) pd29 [(.ref w83), (.ref b42), (.ref b85), (.int 0), .null, (.int 0), (.int 0), (.int 0)] [(.ref b79)] [17, 11] rl0 ?_
  rintro T89 _ _ _ ⟨rfl, rfl, rfl⟩ hro89 S89
  replace S89 := S89.nc (L' := [(o, O3 Z (.ref bo) (.ref g0) (.ref l1) (.ref hm) (.ref l2) (.int 2) (.int 0)), (bo, Ary Z .byte ((.int 1) :: (.int 21) :: (.int 0) :: z13)), (g0, Ary Z (.array .int) [(.ref ga), (.ref gb), (.ref gc), (.ref gd), (.ref ge)]), (ga, Ary Z .int ((.int 1) :: (.int (-1)) :: (.int 0) :: z13)), (gb, Ary Z .int ((.int cp) :: (.int 0) :: (.int 0) :: z13)), (gc, Ary Z .int ((.int 0) :: (.int 0) :: (.int 0) :: z13)), (gd, Ary Z .int ((.int 0) :: (.int 0) :: (.int 0) :: z13)), (ge, Ary Z .int ((.int 0) :: (.int 0) :: (.int 0) :: z13)), (f, O4 Z (.int 0) (.int (-1)) (.int (-1)) (.int ((-1 : Int32) - cp)) (.int 1) (.int 1) (.int 1) (.int 1) (.int 0)), (l1, O1 Z (.int 0) (.ref dce) (.int 0)), (l2, O1 Z (.int 0) (.ref dce) (.int 0)), (b42, AryRA Z .int "[I" [(.ref w47), (.ref w54), (.ref w61), (.ref w68), (.ref w75)]), (w47, Ary Z .int [(.int 1), (.int (-1))]), (w54, Ary Z .int [(.int cp), (.int 0)]), (w61, Ary Z .int [(.int 0), (.int 0)]), (w68, Ary Z .int [(.int 0), (.int 0)]), (w75, Ary Z .int [(.int 0), (.int 0)]), (b79, O5 Z (.ref w83) (.ref w47) (.ref w54) (.ref w61) (.ref w68) (.ref w75) (.ref b85) (.int 0) .null (.int 0) (.int 0) (.int 0)), (w83, Ary Z .byte [(.int 1), (.int 21)]), (b85, AryRX Z "[Lcom/example/honest_errors/honesterrors/jsonschema/RegexLeaf;" "com/example/honest_errors/honesterrors/jsonschema/RegexLeaf" [])]) rfl
  exact C.rA S89 rfl rfl (D53 110 rfl) [0, 1, 2, 3, 4, 5, 6, 7, 8, 9, 10, 17, 18, 12, 13, 14, 15] ⟨b79, w83, w47, w54, w61, w68, w75, b85, rfl, rfl, rfl⟩
theorem finR (H : Hy a0 Z cst dce nona sfv) (o bo g0 l1 hm l2 ga gb gc gd ge : Addr) (cp kd : Int32) (f : Addr) (hk : kd = 6 ∨ kd = 7 ∨ kd = 8) :
    Con lch Z consts_1 Y53 prog_28_method_23_code 11 (Option.some (Jvm.ClassFile.FieldType.object "com/example/honest_errors/honesterrors/jsonschema/RegexProgram")) (rm 2 9 35 57) #[(.ref o), (.ref f), (.int 0), (.int 0)] [(o, O3 Z (.ref bo) (.ref g0) (.ref l1) (.ref hm) (.ref l2) (.int 2) (.int 0)), (bo, Ary Z .byte ((.int 1) :: (.int kd) :: (.int 0) :: z13)), (g0, Ary Z (.array .int) [(.ref ga), (.ref gb), (.ref gc), (.ref gd), (.ref ge)]), (ga, Ary Z .int ((.int (-1)) :: (.int (-1)) :: (.int 0) :: z13)), (gb, Ary Z .int ((.int cp) :: (.int ((-1 : Int32) - cp)) :: (.int 0) :: z13)), (gc, Ary Z .int ((.int 0) :: (.int 1) :: (.int 0) :: z13)), (gd, Ary Z .int ((.int 0) :: (.int 1) :: (.int 0) :: z13)), (ge, Ary Z .int ((.int 0) :: (.int 0) :: (.int 0) :: z13)), (f, O4 Z (.int 1) (.int 2) (.int 2) (.int (-2147483648)) (.int 1) (.int 1) (.int 1) (.int 1) (.int 0)), (l1, O1 Z (.int 0) (.ref dce) (.int 0)), (l2, O1 Z (.int 0) (.ref dce) (.int 0))] []
      (fun rv L1 M1 => ∃ (pr : Addr), ∃ (po : Addr), ∃ (pn : Addr), ∃ (pa : Addr), ∃ (pb : Addr), ∃ (pcc : Addr), ∃ (pd : Addr), ∃ (plv : Addr), rv = some (.ref pr) ∧ L1 = [(o, O3 Z (.ref bo) (.ref g0) (.ref l1) (.ref hm) (.ref l2) (.int 3) (.int 0)), (bo, Ary Z .byte ((.int 1) :: (.int kd) :: (.int 21) :: z13)), (g0, Ary Z (.array .int) [(.ref ga), (.ref gb), (.ref gc), (.ref gd), (.ref ge)]), (ga, Ary Z .int ((.int (-1)) :: (.int 2) :: (.int (-1)) :: z13)), (gb, Ary Z .int ((.int cp) :: (.int ((-1 : Int32) - cp)) :: (.int 0) :: z13)), (gc, Ary Z .int ((.int 0) :: (.int 1) :: (.int 0) :: z13)), (gd, Ary Z .int ((.int 0) :: (.int 1) :: (.int 0) :: z13)), (ge, Ary Z .int ((.int 0) :: (.int 0) :: (.int 0) :: z13)), (f, O4 Z (.int 1) (.int (-1)) (.int (-1)) (.int (-2147483648)) (.int 1) (.int 1) (.int 1) (.int 1) (.int 0)), (l1, O1 Z (.int 0) (.ref dce) (.int 0)), (l2, O1 Z (.int 0) (.ref dce) (.int 0)), (pr, O5 Z (.ref po) (.ref pn) (.ref pa) (.ref pb) (.ref pcc) (.ref pd) (.ref plv) (.int 1) .null (.int 0) (.int 0) (.int 0)), (po, Ary Z .byte [(.int 1), (.int kd), (.int 21)]), (pn, Ary Z .int [(.int (-1)), (.int 2), (.int (-1))]), (pa, Ary Z .int [(.int cp), (.int ((-1 : Int32) - cp)), (.int 0)]), (pb, Ary Z .int [(.int 0), (.int 1), (.int 0)]), (pcc, Ary Z .int [(.int 0), (.int 1), (.int 0)])] ∧ M1 = []) := by
  refine Con.ob #[vr o, vr f, vi 0, vi 0, us, us, us, us, us, us, us] (plainFor_of_name pn11) ?_
  intro p e s m below meth c T0 h0 C S0
  refine C.a1 S0 (D53 0 rfl) rfl rfl <| C.a1 S0 (D53 1 rfl) rfl rfl <| C.xp (y' := Y39) S0 (S0.exa 0 rfl) (W H 142 rfl) (W H 143 rfl) (W H 92 rfl) (W H 93 rfl) (W H 144 rfl) (W H 32 rfl) (W H 145 rfl) (progR H o bo g0 l1 hm l2 ga gb gc gd ge cp kd f) (D53 2 rfl) pd24 [(.ref f)] [] [0, 1, 2, 3, 4, 5, 6, 7, 8] rl0 ?_
  rintro T1 _ _ _ ⟨rfl, rfl, rfl⟩ hro1 S1
  replace S1 := S1.nc (L' := [(o, O3 Z (.ref bo) (.ref g0) (.ref l1) (.ref hm) (.ref l2) (.int 3) (.int 0)), (bo, Ary Z .byte ((.int 1) :: (.int kd) :: (.int 21) :: z13)), (g0, Ary Z (.array .int) [(.ref ga), (.ref gb), (.ref gc), (.ref gd), (.ref ge)]), (ga, Ary Z .int ((.int (-1)) :: (.int 2) :: (.int (-1)) :: z13)), (gb, Ary Z .int ((.int cp) :: (.int ((-1 : Int32) - cp)) :: (.int 0) :: z13)), (gc, Ary Z .int ((.int 0) :: (.int 1) :: (.int 0) :: z13)), (gd, Ary Z .int ((.int 0) :: (.int 1) :: (.int 0) :: z13)), (ge, Ary Z .int ((.int 0) :: (.int 0) :: (.int 0) :: z13)), (f, O4 Z (.int 1) (.int (-1)) (.int (-1)) (.int (-2147483648)) (.int 1) (.int 1) (.int 1) (.int 1) (.int 0)), (l1, O1 Z (.int 0) (.ref dce) (.int 0)), (l2, O1 Z (.int 0) (.ref dce) (.int 0))]) rfl
  refine C.istore S1 (D53 3 rfl) 7 rfl #[vr o, vr f, vi 0, vi 0, vi 1, us, us, us, us, us, us] rfl <| C.i1 S1 (D53 4 rfl) rfl <| C.if_neF S1 (D53 5 rfl) 11 rfl (by decide) <| C.k1 S1 (D53 6 rfl) 0 rfl <| C.istore S1 (D53 7 rfl) 14 rfl #[vr o, vr f, vi 0, vi 0, vi 1, vi 0, us, us, us, us, us] rfl <| C.i2 S1 (D53 8 rfl) rfl <| C.a1 S1 (D53 9 rfl) rfl rfl <| C.gl S1 (W H 99 rfl) (D53 10 rfl) 0 rfl 5 rfl fun T3 S3 => C.icmp_geF S3 (D53 11 rfl) 23 rfl (by decide) <| C.a1 S3 (D53 12 rfl) rfl rfl <| C.gl S3 (W H 37 rfl) (D53 13 rfl) 0 rfl 0 rfl fun T5 S5 => C.i2 S5 (D53 14 rfl) rfl <| C.baload S5 (S5.at 1 rfl) (D53 15 rfl) 30 rfl (by decide) 0 rfl rfl <| C.k2 S5 (D53 16 rfl) 10 rfl <| C.icmp_eqF S5 (D53 17 rfl) 35 rfl (by decide) <| C.a1 S5 (D53 18 rfl) rfl rfl <| C.gl S5 (W H 37 rfl) (D53 19 rfl) 0 rfl 0 rfl fun T7 S7 => C.i2 S7 (D53 20 rfl) rfl <| C.baload S7 (S7.at 1 rfl) (D53 21 rfl) 42 rfl (by decide) 0 rfl rfl ?_
  refine C.k2 S7 (D53 22 rfl) 11 rfl <| C.icmp_neT S7 (D53 23 rfl) 56 rfl (by decide) <| C.iinc S7 (D53 24 rfl) 59 rfl rfl 1 1 rfl (by decide) #[vr o, vr f, vi 0, vi 0, vi 1, vi 1, us, us, us, us, us] rfl <| C.g S7 (D53 25 rfl) 14 rfl <| C.i2 S7 (D53 8 rfl) rfl <| C.a1 S7 (D53 9 rfl) rfl rfl <| C.gl S7 (W H 99 rfl) (D53 10 rfl) 0 rfl 5 rfl fun T9 S9 => C.icmp_geF S9 (D53 11 rfl) 23 rfl (by decide) <| C.a1 S9 (D53 12 rfl) rfl rfl <| C.gl S9 (W H 37 rfl) (D53 13 rfl) 0 rfl 0 rfl fun T11 S11 => C.i2 S11 (D53 14 rfl) rfl <| C.baload S11 (S11.at 1 rfl) (D53 15 rfl) 30 rfl (by decide) 1 rfl rfl <| C.k2 S11 (D53 16 rfl) 10 rfl <| C.icmp_eq S11 (D53 17 rfl) 47 35 (by decide) (by decide) rfl (fun hc12 => absurd hc12 (kd_no hk (by decide))) fun hc12 => C.a1 S11 (D53 18 rfl) rfl rfl <| C.gl S11 (W H 37 rfl) (D53 19 rfl) 0 rfl 0 rfl fun T13 S13 => C.i2 S13 (D53 20 rfl) rfl <| C.baload S13 (S13.at 1 rfl) (D53 21 rfl) 42 rfl (by decide) 1 rfl rfl ?_
  refine C.k2 S13 (D53 22 rfl) 11 rfl ?_
  refine C.icmp_ne S13 (D53 23 rfl) 56 47 (by decide) (by decide) rfl (fun hc14 => ?_) fun hc14 => absurd hc14 (kd_no hk (by decide))
  refine C.iinc S13 (D53 24 rfl) 59 rfl rfl 2 1 rfl (by decide) #[vr o, vr f, vi 0, vi 0, vi 1, vi 2, us, us, us, us, us] rfl <| C.g S13 (D53 25 rfl) 14 rfl <| C.i2 S13 (D53 8 rfl) rfl <| C.a1 S13 (D53 9 rfl) rfl rfl <| C.gl S13 (W H 99 rfl) (D53 10 rfl) 0 rfl 5 rfl fun T15 S15 => C.icmp_geF S15 (D53 11 rfl) 23 rfl (by decide) <| C.a1 S15 (D53 12 rfl) rfl rfl <| C.gl S15 (W H 37 rfl) (D53 13 rfl) 0 rfl 0 rfl fun T17 S17 => C.i2 S17 (D53 14 rfl) rfl <| C.baload S17 (S17.at 1 rfl) (D53 15 rfl) 30 rfl (by decide) 2 rfl rfl <| C.k2 S17 (D53 16 rfl) 10 rfl <| C.icmp_eqF S17 (D53 17 rfl) 35 rfl (by decide) <| C.a1 S17 (D53 18 rfl) rfl rfl <| C.gl S17 (W H 37 rfl) (D53 19 rfl) 0 rfl 0 rfl fun T19 S19 => C.i2 S19 (D53 20 rfl) rfl <| C.baload S19 (S19.at 1 rfl) (D53 21 rfl) 42 rfl (by decide) 2 rfl rfl <| C.k2 S19 (D53 22 rfl) 11 rfl <| C.icmp_neT S19 (D53 23 rfl) 56 rfl (by decide) <| C.iinc S19 (D53 24 rfl) 59 rfl rfl 3 1 rfl (by decide) #[vr o, vr f, vi 0, vi 0, vi 1, vi 3, us, us, us, us, us] rfl ?_
  refine C.g S19 (D53 25 rfl) 14 rfl <| C.i2 S19 (D53 8 rfl) rfl <| C.a1 S19 (D53 9 rfl) rfl rfl <| C.gl S19 (W H 99 rfl) (D53 10 rfl) 0 rfl 5 rfl fun T21 S21 => C.icmp_geT S21 (D53 11 rfl) 62 rfl (by decide) <| C.a1 S21 (D53 26 rfl) rfl rfl <| C.i2 S21 (D53 27 rfl) rfl <| C.xp (y' := Y39) S21 (S21.exa 0 rfl) (W H 150 rfl) (W H 151 rfl) (W H 92 rfl) (W H 93 rfl) (W H 152 rfl) (W H 32 rfl) (W H 153 rfl) (skR1 H o bo g0 l1 hm l2 kd hk) (D53 28 rfl) pd0 [(.int 1)] [] [] (rlN (S21.at 0 rfl) (rlN (S21.at 1 rfl) rl0)) ?_
  rintro T23 _ _ _ ⟨rfl, rfl, rfl⟩ hro23 S23
  replace S23 := S23.n0
  refine C.istore S23 (D53 29 rfl) 70 rfl #[vr o, vr f, vi 0, vi 0, vi 1, vi 3, us, us, us, us, us] rfl <| C.k1 S23 (D53 30 rfl) 0 rfl <| C.istore S23 (D53 31 rfl) 73 rfl #[vr o, vr f, vi 0, vi 0, vi 1, vi 0, us, us, us, us, us] rfl <| C.i2 S23 (D53 32 rfl) rfl <| C.a1 S23 (D53 33 rfl) rfl rfl <| C.gl S23 (W H 99 rfl) (D53 34 rfl) 0 rfl 5 rfl fun T24 S24 => C.icmp_geF S24 (D53 35 rfl) 82 rfl (by decide) <| C.a1 S24 (D53 36 rfl) rfl rfl <| C.gl S24 (W H 42 rfl) (D53 37 rfl) 0 rfl 1 rfl fun T26 S26 => C.k1 S26 (D53 38 rfl) 0 rfl <| C.aaload S26 (S26.at 2 rfl) rfl (D53 39 rfl) 88 rfl (by decide) 0 rfl rfl <| C.i2 S26 (D53 40 rfl) rfl <| C.a1 S26 (D53 41 rfl) rfl rfl <| C.a1 S26 (D53 42 rfl) rfl rfl <| C.gl S26 (W H 42 rfl) (D53 43 rfl) 0 rfl 1 rfl fun T27 S27 => C.k1 S27 (D53 44 rfl) 0 rfl <| C.aaload S27 (S27.at 2 rfl) rfl (D53 45 rfl) 97 rfl (by decide) 0 rfl rfl <| C.i2 S27 (D53 46 rfl) rfl ?_
  refine C.iaload S27 (S27.at 3 rfl) (D53 47 rfl) 100 rfl (by decide) 0 rfl rfl <| C.xp (y' := Y39) S27 (S27.exa 0 rfl) (W H 150 rfl) (W H 151 rfl) (W H 92 rfl) (W H 93 rfl) (W H 152 rfl) (W H 32 rfl) (W H 153 rfl) (skN H o) (D53 48 rfl) pd0 [(.int (-1))] [(.int 0), (.ref ga)] [] rl0 ?_
  rintro T28 _ _ _ ⟨rfl, rfl, rfl⟩ hro28 S28
  replace S28 := S28.n0
  refine C.iastore S28 3 rfl (D53 49 rfl) 104 rfl (by decide) 0 rfl (leD rfl) (-1 : Int32) rfl fun T29 S29 => C.a1 S29 (D53 50 rfl) rfl rfl <| C.gl S29 (W H 37 rfl) (D53 51 rfl) 0 rfl 0 rfl fun T30 S30 => C.i2 S30 (D53 52 rfl) rfl <| C.baload S30 (S30.at 1 rfl) (D53 53 rfl) 111 rfl (by decide) 0 rfl rfl <| C.xs S30 (W H 154 rfl) (W H 155 rfl) (W H 32 rfl) (W H 156 rfl) (lead1 H) (D53 54 rfl) pd25 [(.int 1)] [] [] rl0 ?_
  rintro T31 _ _ _ ⟨rfl, rfl, rfl⟩ hro31 S31
  replace S31 := S31.n0
  refine C.if_eqT S31 (D53 55 rfl) 139 rfl (by decide) <| C.iinc S31 (D53 56 rfl) 142 rfl rfl 1 1 rfl (by decide) #[vr o, vr f, vi 0, vi 0, vi 1, vi 1, us, us, us, us, us] rfl <| C.g S31 (D53 57 rfl) 73 rfl <| C.i2 S31 (D53 32 rfl) rfl <| C.a1 S31 (D53 33 rfl) rfl rfl <| C.gl S31 (W H 99 rfl) (D53 34 rfl) 0 rfl 5 rfl fun T33 S33 => C.icmp_geF S33 (D53 35 rfl) 82 rfl (by decide) <| C.a1 S33 (D53 36 rfl) rfl rfl <| C.gl S33 (W H 42 rfl) (D53 37 rfl) 0 rfl 1 rfl fun T35 S35 => C.k1 S35 (D53 38 rfl) 0 rfl <| C.aaload S35 (S35.at 2 rfl) rfl (D53 39 rfl) 88 rfl (by decide) 0 rfl rfl <| C.i2 S35 (D53 40 rfl) rfl <| C.a1 S35 (D53 41 rfl) rfl rfl <| C.a1 S35 (D53 42 rfl) rfl rfl <| C.gl S35 (W H 42 rfl) (D53 43 rfl) 0 rfl 1 rfl fun T36 S36 => C.k1 S36 (D53 44 rfl) 0 rfl <| C.aaload S36 (S36.at 2 rfl) rfl (D53 45 rfl) 97 rfl (by decide) 0 rfl rfl <| C.i2 S36 (D53 46 rfl) rfl <| C.iaload S36 (S36.at 3 rfl) (D53 47 rfl) 100 rfl (by decide) 1 rfl rfl ?_
  refine C.xp (y' := Y39) S36 (S36.exa 0 rfl) (W H 150 rfl) (W H 151 rfl) (W H 92 rfl) (W H 93 rfl) (W H 152 rfl) (W H 32 rfl) (W H 153 rfl) (skR2 H o bo g0 l1 hm l2 kd hk) (D53 48 rfl) pd0 [(.int 2)] [(.int 1), (.ref ga)] [] (rlN (S36.at 0 rfl) (rlN (S36.at 1 rfl) rl0)) ?_
  rintro T37 _ _ _ ⟨rfl, rfl, rfl⟩ hro37 S37
  replace S37 := S37.n0
  refine C.iastore S37 3 rfl (D53 49 rfl) 104 rfl (by decide) 1 rfl (leD rfl) (2 : Int32) rfl fun T38 S38 => C.a1 S38 (D53 50 rfl) rfl rfl <| C.gl S38 (W H 37 rfl) (D53 51 rfl) 0 rfl 0 rfl fun T39 S39 => C.i2 S39 (D53 52 rfl) rfl <| C.baload S39 (S39.at 1 rfl) (D53 53 rfl) 111 rfl (by decide) 1 rfl rfl <| C.xs S39 (W H 154 rfl) (W H 155 rfl) (W H 32 rfl) (W H 156 rfl) (leadK H kd hk) (D53 54 rfl) pd25 [(.int kd)] [] [] rl0 ?_
  rintro T40 _ _ _ ⟨rfl, rfl, rfl⟩ hro40 S40
  replace S40 := S40.n0
  refine C.if_eqT S40 (D53 55 rfl) 139 rfl (by decide) <| C.iinc S40 (D53 56 rfl) 142 rfl rfl 2 1 rfl (by decide) #[vr o, vr f, vi 0, vi 0, vi 1, vi 2, us, us, us, us, us] rfl <| C.g S40 (D53 57 rfl) 73 rfl <| C.i2 S40 (D53 32 rfl) rfl <| C.a1 S40 (D53 33 rfl) rfl rfl <| C.gl S40 (W H 99 rfl) (D53 34 rfl) 0 rfl 5 rfl fun T42 S42 => C.icmp_geF S42 (D53 35 rfl) 82 rfl (by decide) <| C.a1 S42 (D53 36 rfl) rfl rfl <| C.gl S42 (W H 42 rfl) (D53 37 rfl) 0 rfl 1 rfl fun T44 S44 => C.k1 S44 (D53 38 rfl) 0 rfl <| C.aaload S44 (S44.at 2 rfl) rfl (D53 39 rfl) 88 rfl (by decide) 0 rfl rfl <| C.i2 S44 (D53 40 rfl) rfl <| C.a1 S44 (D53 41 rfl) rfl rfl <| C.a1 S44 (D53 42 rfl) rfl rfl <| C.gl S44 (W H 42 rfl) (D53 43 rfl) 0 rfl 1 rfl fun T45 S45 => C.k1 S45 (D53 44 rfl) 0 rfl <| C.aaload S45 (S45.at 2 rfl) rfl (D53 45 rfl) 97 rfl (by decide) 0 rfl rfl <| C.i2 S45 (D53 46 rfl) rfl <| C.iaload S45 (S45.at 3 rfl) (D53 47 rfl) 100 rfl (by decide) 2 rfl rfl ?_
  refine C.xp (y' := Y39) S45 (S45.exa 0 rfl) (W H 150 rfl) (W H 151 rfl) (W H 92 rfl) (W H 93 rfl) (W H 152 rfl) (W H 32 rfl) (W H 153 rfl) (skN H o) (D53 48 rfl) pd0 [(.int (-1))] [(.int 2), (.ref ga)] [] rl0 ?_
  rintro T46 _ _ _ ⟨rfl, rfl, rfl⟩ hro46 S46
  replace S46 := S46.n0
  refine C.iastore S46 3 rfl (D53 49 rfl) 104 rfl (by decide) 2 rfl (leD rfl) (-1 : Int32) rfl fun T47 S47 => C.a1 S47 (D53 50 rfl) rfl rfl <| C.gl S47 (W H 37 rfl) (D53 51 rfl) 0 rfl 0 rfl fun T48 S48 => C.i2 S48 (D53 52 rfl) rfl <| C.baload S48 (S48.at 1 rfl) (D53 53 rfl) 111 rfl (by decide) 2 rfl rfl <| C.xs S48 (W H 154 rfl) (W H 155 rfl) (W H 32 rfl) (W H 156 rfl) (lead21 H) (D53 54 rfl) pd25 [(.int 21)] [] [] rl0 ?_
  rintro T49 _ _ _ ⟨rfl, rfl, rfl⟩ hro49 S49
  replace S49 := S49.n0
  refine C.if_eqT S49 (D53 55 rfl) 139 rfl (by decide) <| C.iinc S49 (D53 56 rfl) 142 rfl rfl 3 1 rfl (by decide) #[vr o, vr f, vi 0, vi 0, vi 1, vi 3, us, us, us, us, us] rfl <| C.g S49 (D53 57 rfl) 73 rfl <| C.i2 S49 (D53 32 rfl) rfl <| C.a1 S49 (D53 33 rfl) rfl rfl <| C.gl S49 (W H 99 rfl) (D53 34 rfl) 0 rfl 5 rfl fun T51 S51 => C.icmp_geT S51 (D53 35 rfl) 145 rfl (by decide) <| C.aconstNull S51 (D53 58 rfl) 146 rfl <| C.astore S51 (D53 59 rfl) 148 rfl rfl #[vr o, vr f, vi 0, vi 0, vi 1, .val .null, us, us, us, us, us] rfl <| C.i1 S51 (D53 60 rfl) rfl <| C.if_neF S51 (D53 61 rfl) 152 rfl (by decide) <| C.a1 S51 (D53 62 rfl) rfl rfl <| C.gl S51 (W H 88 rfl) (D53 63 rfl) 0 rfl 4 rfl fun T54 S54 => C.xf S54 (S54.exa 10 rfl) (W H 157 rfl) (W H 158 rfl) (W H 159 rfl) rfl (W H 160 rfl) (W H 161 rfl) (W H 162 rfl) (W H 163 rfl) (W H 164 rfl) (W H 46 rfl) (W H 165 rfl) (alEmp H l2) (D53 64 rfl) pd11 [] [] [] (rlN (S54.at 10 rfl) rl0) ?_
  rintro T55 _ _ _ ⟨rfl, rfl, rfl⟩ hro55 S55
  replace S55 := S55.n0
  refine C.if_neT S55 (D53 65 rfl) 252 rfl (by decide) <| C.k1 S55 (D53 66 rfl) 5 rfl <| C.anewarrayA (ty := .int) S55 (by decide) (W H 168 rfl) (W H 40 rfl) (D53 67 rfl) 256 rfl (by decide) 5 rfl 5 (leD rfl) (by decide) (leD rfl) (leD rfl) fun T57 b57 S57 => C.astore S57 (D53 68 rfl) 258 rfl rfl #[vr o, vr f, vi 0, vi 0, vi 1, .val .null, vr b57, us, us, us, us] rfl <| C.k1 S57 (D53 69 rfl) 0 rfl <| C.istore S57 (D53 70 rfl) 261 rfl #[vr o, vr f, vi 0, vi 0, vi 1, .val .null, vr b57, vi 0, us, us, us] rfl <| C.i2 S57 (D53 71 rfl) rfl <| C.k1 S57 (D53 72 rfl) 5 rfl <| C.icmp_geF S57 (D53 73 rfl) 267 rfl (by decide) <| C.a2 S57 (D53 74 rfl) rfl rfl <| C.i2 S57 (D53 75 rfl) rfl <| C.a1 S57 (D53 76 rfl) rfl rfl <| C.gl S57 (W H 42 rfl) (D53 77 rfl) 0 rfl 1 rfl fun T59 S59 => C.i2 S59 (D53 78 rfl) rfl <| C.aaload S59 (S59.at 2 rfl) rfl (D53 79 rfl) 278 rfl (by decide) 0 rfl rfl <| C.a1 S59 (D53 80 rfl) rfl rfl ?_
  refine C.gl S59 (W H 99 rfl) (D53 81 rfl) 0 rfl 5 rfl fun T60 S60 => C.xs S60 (W H 169 rfl) (W H 170 rfl) (W H 171 rfl) (W H 172 rfl) (cpI3 H ga (-1 : Int32) (2 : Int32) (-1 : Int32)) (D53 82 rfl) pd26 [(.ref ga), (.int 3)] [(.int 0), (.ref b57)] [] (rlN (S60.at 3 rfl) rl0) ?_
  rintro T61 _ _ _ ⟨w62, rfl, rfl, rfl⟩ hro61 S61
  replace S61 := S61.na
  replace S61 := S61.asL (L' := [(o, O3 Z (.ref bo) (.ref g0) (.ref l1) (.ref hm) (.ref l2) (.int 3) (.int 0)), (bo, Ary Z .byte ((.int 1) :: (.int kd) :: (.int 21) :: z13)), (g0, Ary Z (.array .int) [(.ref ga), (.ref gb), (.ref gc), (.ref gd), (.ref ge)]), (ga, Ary Z .int ((.int (-1)) :: (.int 2) :: (.int (-1)) :: z13)), (gb, Ary Z .int ((.int cp) :: (.int ((-1 : Int32) - cp)) :: (.int 0) :: z13)), (gc, Ary Z .int ((.int 0) :: (.int 1) :: (.int 0) :: z13)), (gd, Ary Z .int ((.int 0) :: (.int 1) :: (.int 0) :: z13)), (ge, Ary Z .int ((.int 0) :: (.int 0) :: (.int 0) :: z13)), (f, O4 Z (.int 1) (.int (-1)) (.int (-1)) (.int (-2147483648)) (.int 1) (.int 1) (.int 1) (.int 1) (.int 0)), (l1, O1 Z (.int 0) (.ref dce) (.int 0)), (l2, O1 Z (.int 0) (.ref dce) (.int 0)), (b57, AryRA Z .int "[I" [.null, .null, .null, .null, .null]), (w62, AryX Z "[I" .int [(.int (-1)), (.int 2), (.int (-1))])]) rfl
  refine C.aastoreA S61 11 rfl (aryx_exa (S61.at 12 rfl)) (D53 83 rfl) 286 rfl (by decide) 0 rfl (leD rfl) fun T63 S63 => ?_
  have S64 := S63.imp 12 rfl (P' := Ary Z .int [(.int (-1)), (.int 2), (.int (-1))]) (fun _ q => q.1)
  refine C.iinc S64 (D53 84 rfl) 289 rfl rfl 1 1 rfl (by decide) #[vr o, vr f, vi 0, vi 0, vi 1, .val .null, vr b57, vi 1, us, us, us] rfl <| C.g S64 (D53 85 rfl) 261 rfl <| C.i2 S64 (D53 71 rfl) rfl <| C.k1 S64 (D53 72 rfl) 5 rfl <| C.icmp_geF S64 (D53 73 rfl) 267 rfl (by decide) <| C.a2 S64 (D53 74 rfl) rfl rfl <| C.i2 S64 (D53 75 rfl) rfl <| C.a1 S64 (D53 76 rfl) rfl rfl <| C.gl S64 (W H 42 rfl) (D53 77 rfl) 0 rfl 1 rfl fun T66 S66 => C.i2 S66 (D53 78 rfl) rfl <| C.aaload S66 (S66.at 2 rfl) rfl (D53 79 rfl) 278 rfl (by decide) 1 rfl rfl <| C.a1 S66 (D53 80 rfl) rfl rfl <| C.gl S66 (W H 99 rfl) (D53 81 rfl) 0 rfl 5 rfl fun T67 S67 => C.xs S67 (W H 169 rfl) (W H 170 rfl) (W H 171 rfl) (W H 172 rfl) (cpI3 H gb cp ((-1 : Int32) - cp) (0 : Int32)) (D53 82 rfl) pd26 [(.ref gb), (.int 3)] [(.int 1), (.ref b57)] [] (rlN (S67.at 4 rfl) rl0) ?_
  rintro T68 _ _ _ ⟨w69, rfl, rfl, rfl⟩ hro68 S68
  replace S68 := S68.na
  refine C.aastoreA S68 11 rfl (aryx_exa (S68.at 13 rfl)) (D53 83 rfl) 286 rfl (by decide) 1 rfl (leD rfl) fun T70 S70 => ?_
  have S71 := S70.imp 13 rfl (P' := Ary Z .int [(.int cp), (.int ((-1 : Int32) - cp)), (.int 0)]) (fun _ q => q.1)
  replace S71 := S71.asL (L' := [(o, O3 Z (.ref bo) (.ref g0) (.ref l1) (.ref hm) (.ref l2) (.int 3) (.int 0)), (bo, Ary Z .byte ((.int 1) :: (.int kd) :: (.int 21) :: z13)), (g0, Ary Z (.array .int) [(.ref ga), (.ref gb), (.ref gc), (.ref gd), (.ref ge)]), (ga, Ary Z .int ((.int (-1)) :: (.int 2) :: (.int (-1)) :: z13)), (gb, Ary Z .int ((.int cp) :: (.int ((-1 : Int32) - cp)) :: (.int 0) :: z13)), (gc, Ary Z .int ((.int 0) :: (.int 1) :: (.int 0) :: z13)), (gd, Ary Z .int ((.int 0) :: (.int 1) :: (.int 0) :: z13)), (ge, Ary Z .int ((.int 0) :: (.int 0) :: (.int 0) :: z13)), (f, O4 Z (.int 1) (.int (-1)) (.int (-1)) (.int (-2147483648)) (.int 1) (.int 1) (.int 1) (.int 1) (.int 0)), (l1, O1 Z (.int 0) (.ref dce) (.int 0)), (l2, O1 Z (.int 0) (.ref dce) (.int 0)), (b57, AryRA Z .int "[I" [(.ref w62), (.ref w69), .null, .null, .null]), (w62, Ary Z .int [(.int (-1)), (.int 2), (.int (-1))]), (w69, Ary Z .int [(.int cp), (.int ((-1 : Int32) - cp)), (.int 0)])]) rfl
  refine C.iinc S71 (D53 84 rfl) 289 rfl rfl 2 1 rfl (by decide) #[vr o, vr f, vi 0, vi 0, vi 1, .val .null, vr b57, vi 2, us, us, us] rfl <| C.g S71 (D53 85 rfl) 261 rfl <| C.i2 S71 (D53 71 rfl) rfl <| C.k1 S71 (D53 72 rfl) 5 rfl <| C.icmp_geF S71 (D53 73 rfl) 267 rfl (by decide) <| C.a2 S71 (D53 74 rfl) rfl rfl <| C.i2 S71 (D53 75 rfl) rfl <| C.a1 S71 (D53 76 rfl) rfl rfl <| C.gl S71 (W H 42 rfl) (D53 77 rfl) 0 rfl 1 rfl fun T73 S73 => C.i2 S73 (D53 78 rfl) rfl <| C.aaload S73 (S73.at 2 rfl) rfl (D53 79 rfl) 278 rfl (by decide) 2 rfl rfl <| C.a1 S73 (D53 80 rfl) rfl rfl <| C.gl S73 (W H 99 rfl) (D53 81 rfl) 0 rfl 5 rfl fun T74 S74 => C.xs S74 (W H 169 rfl) (W H 170 rfl) (W H 171 rfl) (W H 172 rfl) (cpI3 H gc (0 : Int32) (1 : Int32) (0 : Int32)) (D53 82 rfl) pd26 [(.ref gc), (.int 3)] [(.int 2), (.ref b57)] [] (rlN (S74.at 5 rfl) rl0) ?_
  rintro T75 _ _ _ ⟨w76, rfl, rfl, rfl⟩ hro75 S75
  replace S75 := S75.na
  refine C.aastoreA S75 11 rfl (aryx_exa (S75.at 14 rfl)) (D53 83 rfl) 286 rfl (by decide) 2 rfl (leD rfl) fun T77 S77 => ?_
  have S78 := S77.imp 14 rfl (P' := Ary Z .int [(.int 0), (.int 1), (.int 0)]) (fun _ q => q.1)
  refine C.iinc S78 (D53 84 rfl) 289 rfl rfl 3 1 rfl (by decide) #[vr o, vr f, vi 0, vi 0, vi 1, .val .null, vr b57, vi 3, us, us, us] rfl <| C.g S78 (D53 85 rfl) 261 rfl <| C.i2 S78 (D53 71 rfl) rfl <| C.k1 S78 (D53 72 rfl) 5 rfl <| C.icmp_geF S78 (D53 73 rfl) 267 rfl (by decide) <| C.a2 S78 (D53 74 rfl) rfl rfl <| C.i2 S78 (D53 75 rfl) rfl <| C.a1 S78 (D53 76 rfl) rfl rfl <| C.gl S78 (W H 42 rfl) (D53 77 rfl) 0 rfl 1 rfl fun T80 S80 => C.i2 S80 (D53 78 rfl) rfl <| C.aaload S80 (S80.at 2 rfl) rfl (D53 79 rfl) 278 rfl (by decide) 3 rfl rfl <| C.a1 S80 (D53 80 rfl) rfl rfl <| C.gl S80 (W H 99 rfl) (D53 81 rfl) 0 rfl 5 rfl fun T81 S81 => C.xs S81 (W H 169 rfl) (W H 170 rfl) (W H 171 rfl) (W H 172 rfl) (cpI3 H gd (0 : Int32) (1 : Int32) (0 : Int32)) (D53 82 rfl) pd26 [(.ref gd), (.int 3)] [(.int 3), (.ref b57)] [] (rlN (S81.at 6 rfl) rl0) ?_
  rintro T82 _ _ _ ⟨w83, rfl, rfl, rfl⟩ hro82 S82
  replace S82 := S82.na
  refine C.aastoreA S82 11 rfl (aryx_exa (S82.at 15 rfl)) (D53 83 rfl) 286 rfl (by decide) 3 rfl (leD rfl) fun T84 S84 => ?_
  replace S84 := S84.asL (L' := [(o, O3 Z (.ref bo) (.ref g0) (.ref l1) (.ref hm) (.ref l2) (.int 3) (.int 0)), (bo, Ary Z .byte ((.int 1) :: (.int kd) :: (.int 21) :: z13)), (g0, Ary Z (.array .int) [(.ref ga), (.ref gb), (.ref gc), (.ref gd), (.ref ge)]), (ga, Ary Z .int ((.int (-1)) :: (.int 2) :: (.int (-1)) :: z13)), (gb, Ary Z .int ((.int cp) :: (.int ((-1 : Int32) - cp)) :: (.int 0) :: z13)), (gc, Ary Z .int ((.int 0) :: (.int 1) :: (.int 0) :: z13)), (gd, Ary Z .int ((.int 0) :: (.int 1) :: (.int 0) :: z13)), (ge, Ary Z .int ((.int 0) :: (.int 0) :: (.int 0) :: z13)), (f, O4 Z (.int 1) (.int (-1)) (.int (-1)) (.int (-2147483648)) (.int 1) (.int 1) (.int 1) (.int 1) (.int 0)), (l1, O1 Z (.int 0) (.ref dce) (.int 0)), (l2, O1 Z (.int 0) (.ref dce) (.int 0)), (b57, AryRA Z .int "[I" [(.ref w62), (.ref w69), (.ref w76), (.ref w83), .null]), (w62, Ary Z .int [(.int (-1)), (.int 2), (.int (-1))]), (w69, Ary Z .int [(.int cp), (.int ((-1 : Int32) - cp)), (.int 0)]), (w76, Ary Z .int [(.int 0), (.int 1), (.int 0)]), (w83, AryX Z "[I" .int [(.int 0), (.int 1), (.int 0)])]) rfl
  have S85 := S84.imp 15 rfl (P' := Ary Z .int [(.int 0), (.int 1), (.int 0)]) (fun _ q => q.1)
  refine C.iinc S85 (D53 84 rfl) 289 rfl rfl 4 1 rfl (by decide) #[vr o, vr f, vi 0, vi 0, vi 1, .val .null, vr b57, vi 4, us, us, us] rfl <| C.g S85 (D53 85 rfl) 261 rfl <| C.i2 S85 (D53 71 rfl) rfl <| C.k1 S85 (D53 72 rfl) 5 rfl <| C.icmp_geF S85 (D53 73 rfl) 267 rfl (by decide) <| C.a2 S85 (D53 74 rfl) rfl rfl <| C.i2 S85 (D53 75 rfl) rfl <| C.a1 S85 (D53 76 rfl) rfl rfl <| C.gl S85 (W H 42 rfl) (D53 77 rfl) 0 rfl 1 rfl fun T87 S87 => C.i2 S87 (D53 78 rfl) rfl <| C.aaload S87 (S87.at 2 rfl) rfl (D53 79 rfl) 278 rfl (by decide) 4 rfl rfl <| C.a1 S87 (D53 80 rfl) rfl rfl <| C.gl S87 (W H 99 rfl) (D53 81 rfl) 0 rfl 5 rfl fun T88 S88 => C.xs S88 (W H 169 rfl) (W H 170 rfl) (W H 171 rfl) (W H 172 rfl) (cpI3 H ge (0 : Int32) (0 : Int32) (0 : Int32)) (D53 82 rfl) pd26 [(.ref ge), (.int 3)] [(.int 4), (.ref b57)] [] (rlN (S88.at 7 rfl) rl0) ?_
  rintro T89 _ _ _ ⟨w90, rfl, rfl, rfl⟩ hro89 S89
  replace S89 := S89.na
  refine C.aastoreA S89 11 rfl (aryx_exa (S89.at 16 rfl)) (D53 83 rfl) 286 rfl (by decide) 4 rfl (leD rfl) fun T91 S91 => ?_
  have S92 := S91.imp 16 rfl (P' := Ary Z .int [(.int 0), (.int 0), (.int 0)]) (fun _ q => q.1)
  refine C.iinc S92 (D53 84 rfl) 289 rfl rfl 5 1 rfl (by decide) #[vr o, vr f, vi 0, vi 0, vi 1, .val .null, vr b57, vi 5, us, us, us] rfl <| C.g S92 (D53 85 rfl) 261 rfl <| C.i2 S92 (D53 71 rfl) rfl <| C.k1 S92 (D53 72 rfl) 5 rfl <| C.icmp_geT S92 (D53 73 rfl) 292 rfl (by decide) <| C.new S92 (W H 182 rfl) (W H 183 rfl) (W H 184 rfl) (D53 86 rfl) (layO5 H.1) (by decide) 295 rfl (leD rfl) (leD rfl) fun T94 b94 S94 => ?_
  replace S94 := S94.asL (L' := [(o, O3 Z (.ref bo) (.ref g0) (.ref l1) (.ref hm) (.ref l2) (.int 3) (.int 0)), (bo, Ary Z .byte ((.int 1) :: (.int kd) :: (.int 21) :: z13)), (g0, Ary Z (.array .int) [(.ref ga), (.ref gb), (.ref gc), (.ref gd), (.ref ge)]), (ga, Ary Z .int ((.int (-1)) :: (.int 2) :: (.int (-1)) :: z13)), (gb, Ary Z .int ((.int cp) :: (.int ((-1 : Int32) - cp)) :: (.int 0) :: z13)), (gc, Ary Z .int ((.int 0) :: (.int 1) :: (.int 0) :: z13)), (gd, Ary Z .int ((.int 0) :: (.int 1) :: (.int 0) :: z13)), (ge, Ary Z .int ((.int 0) :: (.int 0) :: (.int 0) :: z13)), (f, O4 Z (.int 1) (.int (-1)) (.int (-1)) (.int (-2147483648)) (.int 1) (.int 1) (.int 1) (.int 1) (.int 0)), (l1, O1 Z (.int 0) (.ref dce) (.int 0)), (l2, O1 Z (.int 0) (.ref dce) (.int 0)), (b57, AryRA Z .int "[I" [(.ref w62), (.ref w69), (.ref w76), (.ref w83), (.ref w90)]), (w62, Ary Z .int [(.int (-1)), (.int 2), (.int (-1))]), (w69, Ary Z .int [(.int cp), (.int ((-1 : Int32) - cp)), (.int 0)]), (w76, Ary Z .int [(.int 0), (.int 1), (.int 0)]), (w83, Ary Z .int [(.int 0), (.int 1), (.int 0)]), (w90, Ary Z .int [(.int 0), (.int 0), (.int 0)]), (b94, O5 Z .null .null .null .null .null .null .null (.int 0) .null (.int 0) (.int 0) (.int 0))]) rfl
  refine C.dup S94 (D53 87 rfl) 296 rfl rfl <| C.a1 S94 (D53 88 rfl) rfl rfl <| C.gl S94 (W H 37 rfl) (D53 89 rfl) 0 rfl 0 rfl fun T95 S95 => C.a1 S95 (D53 90 rfl) rfl rfl <| C.gl S95 (W H 99 rfl) (D53 91 rfl) 0 rfl 5 rfl fun T96 S96 => C.xs S96 (W H 185 rfl) (W H 186 rfl) (W H 171 rfl) (W H 187 rfl) (cpB3 H bo (1 : Int32) kd (21 : Int32)) (D53 92 rfl) pd27 [(.ref bo), (.int 3)] [(.ref b94), (.ref b94)] [] (rlN (S96.at 1 rfl) rl0) ?_
  rintro T97 _ _ _ ⟨w98, rfl, rfl, rfl⟩ hro97 S97
  replace S97 := S97.na
  refine C.a2 S97 (D53 93 rfl) rfl rfl <| C.a1 S97 (D53 94 rfl) rfl rfl <| C.gl S97 (W H 68 rfl) (D53 95 rfl) 0 rfl 2 rfl fun T99 S99 => C.k1 S99 (D53 96 rfl) 0 rfl <| C.anewarrayX S99 (ad := "[Lcom/example/honest_errors/honesterrors/jsonschema/RegexLeaf;") (by decide) (W H 188 rfl) (W H 189 rfl) (D53 97 rfl) 317 rfl (by decide) 0 rfl 0 (leD rfl) (by decide) (leD rfl) (leD rfl) fun T100 b100 S100 => C.xf S100 (S100.exa 9 rfl) (W H 190 rfl) (W H 191 rfl) (W H 192 rfl) rfl (W H 193 rfl) (W H 194 rfl) (W H 195 rfl) (W H 196 rfl) (W H 164 rfl) (W H 46 rfl) (W H 197 rfl) (toArr H l1 b100) (D53 98 rfl) pd28 [(.ref b100)] [(.ref b57), (.ref w98), (.ref b94), (.ref b94)] [9, 19] rl0 ?_
  rintro T101 _ _ _ ⟨rfl, rfl, rfl⟩ hro101 S101
  replace S101 := S101.nc (L' := [(o, O3 Z (.ref bo) (.ref g0) (.ref l1) (.ref hm) (.ref l2) (.int 3) (.int 0)), (bo, Ary Z .byte ((.int 1) :: (.int kd) :: (.int 21) :: z13)), (g0, Ary Z (.array .int) [(.ref ga), (.ref gb), (.ref gc), (.ref gd), (.ref ge)]), (ga, Ary Z .int ((.int (-1)) :: (.int 2) :: (.int (-1)) :: z13)), (gb, Ary Z .int ((.int cp) :: (.int ((-1 : Int32) - cp)) :: (.int 0) :: z13)), (gc, Ary Z .int ((.int 0) :: (.int 1) :: (.int 0) :: z13)), (gd, Ary Z .int ((.int 0) :: (.int 1) :: (.int 0) :: z13)), (ge, Ary Z .int ((.int 0) :: (.int 0) :: (.int 0) :: z13)), (f, O4 Z (.int 1) (.int (-1)) (.int (-1)) (.int (-2147483648)) (.int 1) (.int 1) (.int 1) (.int 1) (.int 0)), (l1, O1 Z (.int 0) (.ref dce) (.int 0)), (l2, O1 Z (.int 0) (.ref dce) (.int 0)), (b57, AryRA Z .int "[I" [(.ref w62), (.ref w69), (.ref w76), (.ref w83), (.ref w90)]), (w62, Ary Z .int [(.int (-1)), (.int 2), (.int (-1))]), (w69, Ary Z .int [(.int cp), (.int ((-1 : Int32) - cp)), (.int 0)]), (w76, Ary Z .int [(.int 0), (.int 1), (.int 0)]), (w83, Ary Z .int [(.int 0), (.int 1), (.int 0)]), (w90, Ary Z .int [(.int 0), (.int 0), (.int 0)]), (b94, O5 Z .null .null .null .null .null .null .null (.int 0) .null (.int 0) (.int 0) (.int 0)), (w98, Ary Z .byte [(.int 1), (.int kd), (.int 21)]), (b100, AryRX Z "[Lcom/example/honest_errors/honesterrors/jsonschema/RegexLeaf;" "com/example/honest_errors/honesterrors/jsonschema/RegexLeaf" [])]) rfl
  refine C.checkcast S101 (W H 199 rfl) (Ins.self (aryrx_exa (S101.at 19 rfl))) (D53 99 rfl) 325 rfl fun T102 S102 => C.i2 S102 (D53 100 rfl) rfl <| C.a2 S102 (D53 101 rfl) rfl rfl <| C.a2 S102 (D53 102 rfl) rfl rfl <| C.ifnonnullNo S102 (D53 103 rfl) 334 rfl <| C.k1 S102 (D53 104 rfl) 0 rfl <| C.g S102 (D53 105 rfl) 347 rfl <| C.i1 S102 (D53 106 rfl) rfl <| C.a1 S102 (D53 107 rfl) rfl rfl <| C.gl S102 (W H 201 rfl) (D53 108 rfl) 0 rfl 6 rfl fun T103 S103 => C.xi (a := b94) S103 (W H 203 rfl) (W H 204 rfl) (W H 184 rfl) (W H 205 rfl) (prInit H b94 w98 w62 w69 w76 w83 w90 b100 b57 (1 : Int32)) (D53 109 rfl) pd29 [(.ref w98), (.ref b57), (.ref b100), (.int 1), .null, (.int 0), (.int 0), (.int 0)] [(.ref b94)] [17, 11] rl0 ?_
  rintro T104 _ _ _ ⟨rfl, rfl, rfl⟩ hro104 S104
  replace S104 := S104.nc (L' := [(o, O3 Z (.ref bo) (.ref g0) (.ref l1) (.ref hm) (.ref l2) (.int 3) (.int 0)), (bo, Ary Z .byte ((.int 1) :: (.int kd) :: (.int 21) :: z13)), (g0, Ary Z (.array .int) [(.ref ga), (.ref gb), (.ref gc), (.ref gd), (.ref ge)]), (ga, Ary Z .int ((.int (-1)) :: (.int 2) :: (.int (-1)) :: z13)), (gb, Ary Z .int ((.int cp) :: (.int ((-1 : Int32) - cp)) :: (.int 0) :: z13)), (gc, Ary Z .int ((.int 0) :: (.int 1) :: (.int 0) :: z13)), (gd, Ary Z .int ((.int 0) :: (.int 1) :: (.int 0) :: z13)), (ge, Ary Z .int ((.int 0) :: (.int 0) :: (.int 0) :: z13)), (f, O4 Z (.int 1) (.int (-1)) (.int (-1)) (.int (-2147483648)) (.int 1) (.int 1) (.int 1) (.int 1) (.int 0)), (l1, O1 Z (.int 0) (.ref dce) (.int 0)), (l2, O1 Z (.int 0) (.ref dce) (.int 0)), (b57, AryRA Z .int "[I" [(.ref w62), (.ref w69), (.ref w76), (.ref w83), (.ref w90)]), (w62, Ary Z .int [(.int (-1)), (.int 2), (.int (-1))]), (w69, Ary Z .int [(.int cp), (.int ((-1 : Int32) - cp)), (.int 0)]), (w76, Ary Z .int [(.int 0), (.int 1), (.int 0)]), (w83, Ary Z .int [(.int 0), (.int 1), (.int 0)]), (w90, Ary Z .int [(.int 0), (.int 0), (.int 0)]), (b94, O5 Z (.ref w98) (.ref w62) (.ref w69) (.ref w76) (.ref w83) (.ref w90) (.ref b100) (.int 1) .null (.int 0) (.int 0) (.int 0)), (w98, Ary Z .byte [(.int 1), (.int kd), (.int 21)]), (b100, AryRX Z "[Lcom/example/honest_errors/honesterrors/jsonschema/RegexLeaf;" "com/example/honest_errors/honesterrors/jsonschema/RegexLeaf" [])]) rfl
  exact C.rA S104 rfl rfl (D53 110 rfl) [0, 1, 2, 3, 4, 5, 6, 7, 8, 9, 10, 17, 18, 12, 13, 14, 15] ⟨b94, w98, w62, w69, w76, w83, w90, b100, rfl, rfl, rfl⟩
def endF (cs : List Int32) (cp : Int32) (ix : Nat) : Int32 :=
  if ix < cs.length then
    if cp < 65536 then
      if surB (cp.toUInt32.toUInt16.toUInt32.toInt32) = 0 then (if cs.getD ix 0 = cp then n32 ix + 1 else -1)
      else (if cpAt cs ix = cp then n32 ix + ccF (cpAt cs ix) else -1)
    else (if cpAt cs ix = cp then n32 ix + ccF (cpAt cs ix) else -1)
  else -1
def fnd (cs : List Int32) (cp : Int32) (ix : Nat) (u w : Int32) : Int32 :=
  if endF cs cp ix < 0 then
    if ix < cs.length then
      if hiB (cs.getD ix 0) = 0 then u
      else if ix + 1 < cs.length then (if loB (cs.getD (ix + 1) 0) = 0 then u else w) else u
    else 0
  else 1
theorem fnd_a {cs : List Int32} {cp : Int32} {ix : Nat} {u w : Int32} (h : endF cs cp ix < 0) (hl : ix < cs.length) (H : hiB (cs.getD ix 0) = 0) : fnd cs cp ix u w = u := by rw [fnd, if_pos h, if_pos hl, if_pos H]
theorem fnd_b {cs : List Int32} {cp : Int32} {ix : Nat} {u w : Int32} (h : endF cs cp ix < 0) (hl : ix < cs.length) (H : ¬ hiB (cs.getD ix 0) = 0) (h2 : ix + 1 < cs.length) (hlo : loB (cs.getD (ix + 1) 0) = 0) : fnd cs cp ix u w = u := by rw [fnd, if_pos h, if_pos hl, if_neg H, if_pos h2, if_pos hlo]
theorem fnd_c {cs : List Int32} {cp : Int32} {ix : Nat} {u w : Int32} (h : endF cs cp ix < 0) (hl : ix < cs.length) (H : ¬ hiB (cs.getD ix 0) = 0) (h2 : ix + 1 < cs.length) (hlo : ¬ loB (cs.getD (ix + 1) 0) = 0) : fnd cs cp ix u w = w := by rw [fnd, if_pos h, if_pos hl, if_neg H, if_pos h2, if_neg hlo]
theorem fnd_d {cs : List Int32} {cp : Int32} {ix : Nat} {u w : Int32} (h : endF cs cp ix < 0) (hl : ix < cs.length) (H : ¬ hiB (cs.getD ix 0) = 0) (h2 : ¬ ix + 1 < cs.length) : fnd cs cp ix u w = u := by rw [fnd, if_pos h, if_pos hl, if_neg H, if_neg h2]
theorem fnd_0 {cs : List Int32} {cp : Int32} {ix : Nat} {u w : Int32} (h : endF cs cp ix < 0) (hl : ¬ ix < cs.length) : fnd cs cp ix u w = 0 := by rw [fnd, if_pos h, if_neg hl]
theorem fnd_1 {cs : List Int32} {cp : Int32} {ix : Nat} {u w : Int32} (h : ¬ endF cs cp ix < 0) : fnd cs cp ix u w = 1 := by rw [fnd, if_neg h]
abbrev O6 (Z : State) (v0 : Value) (v1 : Value) (v2 : Value) (v3 : Value) (v4 : Value) (v5 : Value) (v6 : Value) (v7 : Value) (v8 : Value) : Cell → Prop := Obj Z "com/example/honest_errors/honesterrors/jsonschema/RegexProgram$Search" [("com/example/honest_errors/honesterrors/jsonschema/RegexProgram$Search", "this$0", "Lcom/example/honest_errors/honesterrors/jsonschema/RegexProgram;", v0), ("com/example/honest_errors/honesterrors/jsonschema/RegexProgram$Search", "choices", "[I", v1), ("com/example/honest_errors/honesterrors/jsonschema/RegexProgram$Search", "trail", "[I", v2), ("com/example/honest_errors/honesterrors/jsonschema/RegexProgram$Search", "text", "Ljava/lang/String;", v3), ("com/example/honest_errors/honesterrors/jsonschema/RegexProgram$Search", "length", "I", v4), ("com/example/honest_errors/honesterrors/jsonschema/RegexProgram$Search", "registers", "[I", v5), ("com/example/honest_errors/honesterrors/jsonschema/RegexProgram$Search", "chosen", "I", v6), ("com/example/honest_errors/honesterrors/jsonschema/RegexProgram$Search", "trailed", "I", v7), ("com/example/honest_errors/honesterrors/jsonschema/RegexProgram$Search", "at", "I", v8)]
theorem pd30 : parseMethodDescriptor "(I)C" = some ⟨[.int], some .char⟩ := by decide +kernel
theorem pn15 : plainName "com/example/honest_errors/honesterrors/jsonschema/RegexProgram$Search" = true := by first | (simp [plainName, overriddenIn]; done) | decide +kernel
theorem endC (H : Hy a0 Z cst dce nona sfv) (se pr t b : Addr) (PT PB : Cell → Prop) (cs : List Int32) (cp : Int32) (ix : Nat) (at9 ax : Int32) (hT : Tx lch Z t b PT PB cs) (hcp : Cpt cp) (hib : ix ≤ cs.length) (hn3 : cs.length ≤ 3) (hax : ax = (-1 : Int32) - cp) :
    Con lch Z consts_1 Y54 prog_35_method_13_code 6 (some .int) (rm 6 0 0 89) #[(.ref se), (.int ax), (.int (n32 ix))] [] [(se, O6 Z (.ref pr) (.ref nona) (.ref nona) (.ref t) (.int (n32 cs.length)) (.ref nona) (.int 0) (.int 0) (.int at9)), (t, PT), (b, PB)]
      (fun rv L1 M1 => rv = some (.int (endF cs cp ix)) ∧ L1 = [] ∧ M1 = []) := by
  refine Con.ob #[vr se, vi ax, vi (n32 ix), us, us, us] (plainFor_of_name pn15) ?_
  intro p e s m below meth c T0 h0 C S0
  refine C.k1 S0 (D54 0 rfl) (-1) rfl <| C.istoreN S0 (D54 1 rfl) 2 rfl #[vr se, vi ax, vi (n32 ix), vi (-1), us, us] rfl <| C.i1 S0 (D54 2 rfl) rfl <| C.a1 S0 (D54 3 rfl) rfl rfl <| C.gf S0 (W H 264 rfl) (D54 4 rfl) (S0.fldM 0 rfl 4 rfl) 7 rfl fun T1 S1 => C.icmp_lt S1 (D54 5 rfl) 15 10 (by decide) (by decide) rfl (fun hc2 => ?_) fun hc2 => ?_
  · refine C.i1 S1 (D54 6 rfl) rfl <| C.if_ge S1 (D54 7 rfl) 96 19 (by decide) (by decide) rfl (fun hc3 => absurd (atom_n2 hcp hax) hc3) fun hc3 => C.k1 S1 (D54 8 rfl) (-1) rfl <| C.i1 S1 (D54 9 rfl) rfl <| C.isub S1 (D54 10 rfl) 22 rfl cp (atom_b2 hax) <| C.istore S1 (D54 11 rfl) 24 rfl #[vr se, vi ax, vi (n32 ix), vi (-1), vi cp, us] rfl <| C.a1 S1 (D54 12 rfl) rfl rfl <| C.gf S1 (W H 251 rfl) (D54 13 rfl) (S1.fldM 0 rfl 3 rfl) 28 rfl fun T4 S4 => C.i1 S4 (D54 14 rfl) rfl <| C.xv S4 (hT.1 _ (S4.atM 1 rfl)) (W H 347 rfl) (W H 348 rfl) (Or.inl ⟨_, (W H 350 rfl)⟩) (W H 350 rfl) (W H 349 rfl) (W H 11 rfl) (W H 351 rfl) (txCp H t b PT PB cs ix hT ((n32_lt hib hn3).mp hc2)) (D54 15 rfl) pd0 [(.int (n32 ix))] [] [] (rlN (S4.atM 1 rfl) (rlN (S4.atM 2 rfl) rl0)) ?_
    rintro T5 _ _ _ ⟨rfl, rfl, rfl⟩ hro5 S5
    replace S5 := S5.n0
    refine C.istore S5 (D54 16 rfl) 34 rfl #[vr se, vi ax, vi (n32 ix), vi (-1), vi cp, vi (cpAt cs ix)] rfl <| C.i2 S5 (D54 17 rfl) rfl <| C.ldcInt S5 (W H 380 rfl) (D54 18 rfl) 38 rfl <| C.icmp_ge S5 (D54 19 rfl) 74 41 (by decide) (by decide) rfl (fun hc6 => ?_) fun hc6 => ?_
    · refine C.i2 S5 (D54 20 rfl) rfl <| C.i2 S5 (D54 21 rfl) rfl <| C.icmp_ne S5 (D54 22 rfl) 91 81 (by decide) (by decide) rfl (fun hc7 => ?_) fun hc7 => ?_
      · refine C.k1 S5 (D54 23 rfl) (-1) rfl <| C.istoreN S5 (D54 24 rfl) 93 rfl #[vr se, vi ax, vi (n32 ix), vi (-1), vi cp, vi (cpAt cs ix)] rfl <| C.g S5 (D54 25 rfl) 187 rfl <| C.i1 S5 (D54 26 rfl) rfl ?_
        exact C.rI S5 (D54 27 rfl) [] ⟨by rw [endF, if_pos ((n32_lt hib hn3).mp hc2), if_neg hc6, if_neg hc7], rfl, rfl⟩
      · refine C.i1 S5 (D54 28 rfl) rfl <| C.i2 S5 (D54 29 rfl) rfl <| C.xs S5 (W H 442 rfl) (W H 443 rfl) (W H 373 rfl) (W H 444 rfl) (chCnt H (cpAt cs ix)) (D54 30 rfl) pd0 [(.int (cpAt cs ix))] [(.int (n32 ix))] [] rl0 ?_
        rintro T8 _ _ _ ⟨rfl, rfl, rfl⟩ hro8 S8
        replace S8 := S8.n0
        refine C.iadd S8 (D54 31 rfl) 88 rfl ((n32 ix) + (ccF (cpAt cs ix))) rfl <| C.g S8 (D54 32 rfl) 92 rfl <| C.istoreN S8 (D54 24 rfl) 93 rfl #[vr se, vi ax, vi (n32 ix), vi ((n32 ix) + (ccF (cpAt cs ix))), vi cp, vi (cpAt cs ix)] rfl <| C.g S8 (D54 25 rfl) 187 rfl <| C.i1 S8 (D54 26 rfl) rfl ?_
        exact C.rI S8 (D54 27 rfl) [] ⟨by rw [endF, if_pos ((n32_lt hib hn3).mp hc2), if_neg hc6, if_pos hc7], rfl, rfl⟩
    · refine C.i2 S5 (D54 33 rfl) rfl <| C.i2c S5 (D54 34 rfl) 44 rfl (cp.toUInt32.toUInt16.toUInt32.toInt32) rfl <| C.xs S5 (W H 381 rfl) (W H 382 rfl) (W H 373 rfl) (W H 383 rfl) (isSur H (cp.toUInt32.toUInt16.toUInt32.toInt32)) (D54 35 rfl) pd14 [(.int (cp.toUInt32.toUInt16.toUInt32.toInt32))] [] [] rl0 ?_
      rintro T9 _ _ _ ⟨rfl, rfl, rfl⟩ hro9 S9
      replace S9 := S9.n0
      refine C.if_ne S9 (D54 36 rfl) 74 50 (by decide) (by decide) rfl (fun hc10 => ?_) fun hc10 => ?_
      · refine C.i2 S9 (D54 20 rfl) rfl <| C.i2 S9 (D54 21 rfl) rfl <| C.icmp_ne S9 (D54 22 rfl) 91 81 (by decide) (by decide) rfl (fun hc11 => ?_) fun hc11 => ?_
        · refine C.k1 S9 (D54 23 rfl) (-1) rfl <| C.istoreN S9 (D54 24 rfl) 93 rfl #[vr se, vi ax, vi (n32 ix), vi (-1), vi cp, vi (cpAt cs ix)] rfl <| C.g S9 (D54 25 rfl) 187 rfl <| C.i1 S9 (D54 26 rfl) rfl ?_
          exact C.rI S9 (D54 27 rfl) [] ⟨by rw [endF, if_pos ((n32_lt hib hn3).mp hc2), if_pos hc6, if_neg hc10, if_neg hc11], rfl, rfl⟩
        · refine C.i1 S9 (D54 28 rfl) rfl <| C.i2 S9 (D54 29 rfl) rfl <| C.xs S9 (W H 442 rfl) (W H 443 rfl) (W H 373 rfl) (W H 444 rfl) (chCnt H (cpAt cs ix)) (D54 30 rfl) pd0 [(.int (cpAt cs ix))] [(.int (n32 ix))] [] rl0 ?_
          rintro T12 _ _ _ ⟨rfl, rfl, rfl⟩ hro12 S12
          replace S12 := S12.n0
          refine C.iadd S12 (D54 31 rfl) 88 rfl ((n32 ix) + (ccF (cpAt cs ix))) rfl <| C.g S12 (D54 32 rfl) 92 rfl <| C.istoreN S12 (D54 24 rfl) 93 rfl #[vr se, vi ax, vi (n32 ix), vi ((n32 ix) + (ccF (cpAt cs ix))), vi cp, vi (cpAt cs ix)] rfl <| C.g S12 (D54 25 rfl) 187 rfl <| C.i1 S12 (D54 26 rfl) rfl ?_
          exact C.rI S12 (D54 27 rfl) [] ⟨by rw [endF, if_pos ((n32_lt hib hn3).mp hc2), if_pos hc6, if_neg hc10, if_pos hc11], rfl, rfl⟩
      · refine C.a1 S9 (D54 37 rfl) rfl rfl <| C.gf S9 (W H 251 rfl) (D54 38 rfl) (S9.fldM 0 rfl 3 rfl) 54 rfl fun T13 S13 => C.i1 S13 (D54 39 rfl) rfl <| C.xv S13 (hT.1 _ (S13.atM 1 rfl)) (W H 384 rfl) (W H 385 rfl) (Or.inl ⟨_, (W H 387 rfl)⟩) (W H 387 rfl) (W H 386 rfl) (W H 11 rfl) (W H 388 rfl) (txCa H t b PT PB cs ix hT ((n32_lt hib hn3).mp hc2)) (D54 40 rfl) pd30 [(.int (n32 ix))] [] [] (rlN (S13.atM 1 rfl) (rlN (S13.atM 2 rfl) rl0)) ?_
        rintro T14 _ _ _ ⟨rfl, rfl, rfl⟩ hro14 S14
        replace S14 := S14.n0
        refine C.i2 S14 (D54 41 rfl) rfl <| C.icmp_ne S14 (D54 42 rfl) 69 63 (by decide) (by decide) rfl (fun hc15 => ?_) fun hc15 => ?_
        · refine C.k1 S14 (D54 43 rfl) (-1) rfl <| C.istoreN S14 (D54 44 rfl) 71 rfl #[vr se, vi ax, vi (n32 ix), vi (-1), vi cp, vi (cpAt cs ix)] rfl <| C.g S14 (D54 45 rfl) 93 rfl <| C.g S14 (D54 25 rfl) 187 rfl <| C.i1 S14 (D54 26 rfl) rfl ?_
          exact C.rI S14 (D54 27 rfl) [] ⟨by rw [endF, if_pos ((n32_lt hib hn3).mp hc2), if_pos hc6, if_pos hc10, if_neg hc15], rfl, rfl⟩
        · refine C.i1 S14 (D54 46 rfl) rfl <| C.k1 S14 (D54 47 rfl) 1 rfl <| C.iadd S14 (D54 48 rfl) 66 rfl (n32 (ix + 1)) n32_suc <| C.g S14 (D54 49 rfl) 70 rfl <| C.istoreN S14 (D54 44 rfl) 71 rfl #[vr se, vi ax, vi (n32 ix), vi (n32 (ix + 1)), vi cp, vi (cpAt cs ix)] rfl <| C.g S14 (D54 45 rfl) 93 rfl <| C.g S14 (D54 25 rfl) 187 rfl <| C.i1 S14 (D54 26 rfl) rfl ?_
          exact C.rI S14 (D54 27 rfl) [] ⟨by rw [endF, if_pos ((n32_lt hib hn3).mp hc2), if_pos hc6, if_pos hc10, if_pos hc15, n32_suc], rfl, rfl⟩
  · refine C.k1 S1 (D54 50 rfl) (-1) rfl <| C.istoreN S1 (D54 51 rfl) 12 rfl #[vr se, vi ax, vi (n32 ix), vi (-1), us, us] rfl <| C.g S1 (D54 52 rfl) 187 rfl <| C.i1 S1 (D54 26 rfl) rfl ?_
    exact C.rI S1 (D54 27 rfl) [] ⟨by rw [endF, if_neg (fun q => hc2 ((n32_lt hib hn3).mpr q))], rfl, rfl⟩
theorem bckC (H : Hy a0 Z cst dce nona sfv) (se pr t b : Addr) (PT PB : Cell → Prop) (cs : List Int32) (at9 : Int32) :
    Con lch Z consts_1 Y55 prog_35_method_5_code 6 (some .int) (rm 0 0 0 0) #[(.ref se), (.int 0)] [] [(se, O6 Z (.ref pr) (.ref nona) (.ref nona) (.ref t) (.int (n32 cs.length)) (.ref nona) (.int 0) (.int 0) (.int at9))]
      (fun rv L1 M1 => rv = some (.int (-1)) ∧ L1 = [] ∧ M1 = []) := by
  refine Con.ob #[vr se, vi 0, us, us, us, us] (plainFor_of_name pn15) ?_
  intro p e s m below meth c T0 h0 C S0
  refine C.k1 S0 (D55 0 rfl) (-1) rfl <| C.istoreN S0 (D55 1 rfl) 2 rfl #[vr se, vi 0, vi (-1), us, us, us] rfl <| C.i1 S0 (D55 2 rfl) rfl <| C.k1 S0 (D55 3 rfl) (-1) rfl <| C.icmp_neF S0 (D55 4 rfl) 7 rfl (by decide) <| C.a1 S0 (D55 5 rfl) rfl rfl <| C.gf S0 (W H 286 rfl) (D55 6 rfl) (S0.fldM 0 rfl 6 rfl) 11 rfl fun T2 S2 => C.i1 S2 (D55 7 rfl) rfl <| C.icmp_leT S2 (D55 8 rfl) 445 rfl (by decide) <| C.i1 S2 (D55 9 rfl) rfl ?_
  exact C.rI S2 (D55 10 rfl) [] ⟨rfl, rfl, rfl⟩
theorem undC (H : Hy a0 Z cst dce nona sfv) (se pr t b : Addr) (PT PB : Cell → Prop) (cs : List Int32) (at9 : Int32) :
    Con lch Z consts_1 Y56 prog_35_method_11_code 3 none (rm 0 0 0 0) #[(.ref se), (.int 0)] [] [(se, O6 Z (.ref pr) (.ref nona) (.ref nona) (.ref t) (.int (n32 cs.length)) (.ref nona) (.int 0) (.int 0) (.int at9))]
      (fun rv L1 M1 => rv = none ∧ L1 = [] ∧ M1 = []) := by
  refine Con.ob #[vr se, vi 0, us] (plainFor_of_name pn15) ?_
  intro p e s m below meth c T0 h0 C S0
  refine C.a1 S0 (D56 0 rfl) rfl rfl <| C.gf S0 (W H 288 rfl) (D56 1 rfl) (S0.fldM 0 rfl 7 rfl) 4 rfl fun T1 S1 => C.i1 S1 (D56 2 rfl) rfl <| C.icmp_leT S1 (D56 3 rfl) 50 rfl (by decide) ?_
  exact C.rV S1 (D56 4 rfl) [] ⟨rfl, rfl, rfl⟩
theorem pasO (H : Hy a0 Z cst dce nona sfv) (se pr t b : Addr) (PT PB : Cell → Prop) (cs : List Int32) (po pn pa pb pcc pd plv : Addr) (at9 s9 w9 : Int32) :
    Con lch Z consts_1 Y57 prog_35_method_19_code 6 (some .int) (rm 0 0 0 0) #[(.ref se), (.int 1), (.int s9), (.int 1), (.int w9)] [] [(se, O6 Z (.ref pr) (.ref nona) (.ref nona) (.ref t) (.int (n32 cs.length)) (.ref nona) (.int 0) (.int 0) (.int at9)), (pr, O5 Z (.ref po) (.ref pn) (.ref pa) (.ref pb) (.ref pcc) (.ref pd) (.ref plv) (.int 1) .null (.int 0) (.int 0) (.int 0)), (pb, Ary Z .int [(.int 0), (.int 1), (.int 0)])]
      (fun rv L1 M1 => rv = some (.int 1) ∧ L1 = [] ∧ M1 = []) := by
  refine Con.ob #[vr se, vi 1, vi s9, vi 1, vi w9, us] (plainFor_of_name pn15) ?_
  intro p e s m below meth c T0 h0 C S0
  refine C.i1 S0 (D57 0 rfl) rfl <| C.istore S0 (D57 1 rfl) 3 rfl #[vr se, vi 1, vi s9, vi 1, vi w9, vi 1] rfl <| C.i2 S0 (D57 2 rfl) rfl <| C.a1 S0 (D57 3 rfl) rfl rfl <| C.gf S0 (W H 242 rfl) (D57 4 rfl) (S0.fldM 0 rfl 0 rfl) 9 rfl fun T1 S1 => C.gm S1 (W H 425 rfl) (D57 5 rfl) 1 rfl 3 rfl fun T2 S2 => C.i1 S2 (D57 6 rfl) rfl <| C.iaload S2 (S2.atM 2 rfl) (D57 7 rfl) 14 rfl (by decide) 1 rfl rfl <| C.icmp_leT S2 (D57 8 rfl) 54 rfl (by decide) <| C.i2 S2 (D57 9 rfl) rfl ?_
  exact C.rI S2 (D57 10 rfl) [] ⟨rfl, rfl, rfl⟩
theorem conY (H : Hy a0 Z cst dce nona sfv) (se pr t b : Addr) (PT PB : Cell → Prop) (cs : List Int32) (cp : Int32) (ix : Nat) (ax : Int32) (hT : Tx lch Z t b PT PB cs) (hcp : Cpt cp) (hib : ix ≤ cs.length) (hn3 : cs.length ≤ 3) (hy : ¬ endF cs cp ix < 0) (hax : ax = (-1 : Int32) - cp) :
    Con lch Z consts_1 Y59 prog_35_method_12_code 3 (some .boolean) (rm 7 0 0 106) #[(.ref se), (.int ax)] [(se, O6 Z (.ref pr) (.ref nona) (.ref nona) (.ref t) (.int (n32 cs.length)) (.ref nona) (.int 0) (.int 0) (.int (n32 ix)))] [(t, PT), (b, PB)]
      (fun rv L1 M1 => rv = some (.int 1) ∧ L1 = [(se, O6 Z (.ref pr) (.ref nona) (.ref nona) (.ref t) (.int (n32 cs.length)) (.ref nona) (.int 0) (.int 0) (.int (endF cs cp ix)))] ∧ M1 = []) := by
  refine Con.ob #[vr se, vi ax, us] (plainFor_of_name pn15) ?_
  intro p e s m below meth c T0 h0 C S0
  refine C.a1 S0 (D58 0 rfl) rfl rfl <| C.i1 S0 (D58 1 rfl) rfl <| C.a1 S0 (D58 2 rfl) rfl rfl <| C.gl S0 (W H 290 rfl) (D58 3 rfl) 0 rfl 8 rfl fun T1 S1 => C.xp (y' := Y58) S1 (S1.exa 0 rfl) (W H 302 rfl) (W H 303 rfl) (W H 278 rfl) (W H 279 rfl) (W H 304 rfl) (W H 238 rfl) (W H 305 rfl) (endC H se pr t b PT PB cs cp ix (n32 ix) ax hT hcp hib hn3 hax) (D58 4 rfl) pd23 [(.int ax), (.int (n32 ix))] [] [] (rlN (S1.at 0 rfl) (rlN (S1.atM 0 rfl) (rlN (S1.atM 1 rfl) rl0))) ?_
  rintro T2 _ _ _ ⟨rfl, rfl, rfl⟩ hro2 S2
  replace S2 := S2.n0
  refine C.istoreN S2 (D58 5 rfl) 10 rfl #[vr se, vi ax, vi (endF cs cp ix)] rfl <| C.i1 S2 (D58 6 rfl) rfl <| C.if_lt S2 (D58 7 rfl) 19 14 (by decide) (by decide) rfl (fun hc3 => absurd hc3 hy) fun hc3 => C.a1 S2 (D58 8 rfl) rfl rfl <| C.i1 S2 (D58 9 rfl) rfl <| C.putfield S2 (host := "") (Or.inl (W H 290 rfl)) Via.refl (D58 10 rfl) 0 rfl 8 rfl (Or.inl (W H 291 rfl)) (W H 237 rfl) (ty := .int) (by decide) rfl rfl 19 rfl fun T4 S4 => C.i1 S4 (D58 11 rfl) rfl <| C.if_lt S4 (D58 12 rfl) 27 23 (by decide) (by decide) rfl (fun hc5 => absurd hc5 hy) fun hc5 => C.k1 S4 (D58 13 rfl) 1 rfl <| C.g S4 (D58 14 rfl) 28 rfl ?_
  exact C.rN S4 (D58 15 rfl) 1 (by decide) [0] ⟨rfl, rfl, rfl⟩
theorem pd31 : parseMethodDescriptor "(I)Z" = some ⟨[.int], some .boolean⟩ := by decide +kernel
theorem stpLY (H : Hy a0 Z cst dce nona sfv) (se pr t b : Addr) (PT PB : Cell → Prop) (cs : List Int32) (cp : Int32) (ix : Nat) (po pn pa pb pcc pd plv : Addr) (hT : Tx lch Z t b PT PB cs) (hcp : Cpt cp) (hib : ix ≤ cs.length) (hn3 : cs.length ≤ 3) (hy : ¬ endF cs cp ix < 0) :
    Con lch Z consts_1 Y60 prog_35_method_4_code 4 (some .int) (rm 8 0 0 120) #[(.ref se), (.int 0), (.int (-1))] [(se, O6 Z (.ref pr) (.ref nona) (.ref nona) (.ref t) (.int (n32 cs.length)) (.ref nona) (.int 0) (.int 0) (.int (n32 ix)))] [(pr, O5 Z (.ref po) (.ref pn) (.ref pa) (.ref pb) (.ref pcc) (.ref pd) (.ref plv) (.int 0) .null (.int 0) (.int 0) (.int 0)), (po, Ary Z .byte [(.int 1), (.int 21)]), (pn, Ary Z .int [(.int 1), (.int (-1))]), (pa, Ary Z .int [(.int cp), (.int 0)]), (pb, Ary Z .int [(.int 0), (.int 0)]), (pcc, Ary Z .int [(.int 0), (.int 0)]), (t, PT), (b, PB)]
      (fun rv L1 M1 => rv = some (.int 1) ∧ L1 = [(se, O6 Z (.ref pr) (.ref nona) (.ref nona) (.ref t) (.int (n32 cs.length)) (.ref nona) (.int 0) (.int 0) (.int (endF cs cp ix)))] ∧ M1 = []) := by
  refine Con.ob #[vr se, vi 0, vi (-1), us] (plainFor_of_name pn15) ?_
  intro p e s m below meth c T0 h0 C S0
  refine C.a1 S0 (D59 0 rfl) rfl rfl <| C.gl S0 (W H 242 rfl) (D59 1 rfl) 0 rfl 0 rfl fun T1 S1 => C.gm S1 (W H 296 rfl) (D59 2 rfl) 0 rfl 0 rfl fun T2 S2 => C.i1 S2 (D59 3 rfl) rfl <| C.baload S2 (S2.atM 1 rfl) (D59 4 rfl) 9 rfl (by decide) 0 rfl rfl <| C.tableswitch S2 (D59 5 rfl) (by decide) (off := 123) rfl (by decide) 132 (by decide) <| C.a1 S2 (D59 6 rfl) rfl rfl <| C.k1 S2 (D59 7 rfl) (-1) rfl <| C.a1 S2 (D59 8 rfl) rfl rfl <| C.gl S2 (W H 242 rfl) (D59 9 rfl) 0 rfl 0 rfl fun T3 S3 => C.gm S3 (W H 297 rfl) (D59 10 rfl) 0 rfl 2 rfl fun T4 S4 => C.i1 S4 (D59 11 rfl) rfl <| C.iaload S4 (S4.atM 3 rfl) (D59 12 rfl) 143 rfl (by decide) 0 rfl rfl <| C.isub S4 (D59 13 rfl) 144 rfl ((-1 : Int32) - cp) rfl <| C.xp (y' := Y58) S4 (S4.exa 0 rfl) (W H 298 rfl) (W H 299 rfl) (W H 278 rfl) (W H 279 rfl) (W H 300 rfl) (W H 238 rfl) (W H 301 rfl) (conY H se pr t b PT PB cs cp ix ((-1 : Int32) - cp) hT hcp hib hn3 hy rfl) (D59 14 rfl) pd31 [(.int ((-1 : Int32) - cp))] [] [0] (S4.roP (is := [0]) (js := [6, 7]) rfl rfl) ?_
  rintro T5 _ _ _ ⟨rfl, rfl, rfl⟩ hro5 S5
  replace S5 := S5.nc (L' := [(se, O6 Z (.ref pr) (.ref nona) (.ref nona) (.ref t) (.int (n32 cs.length)) (.ref nona) (.int 0) (.int 0) (.int (endF cs cp ix)))]) rfl
  refine C.if_eqF S5 (D59 15 rfl) 150 rfl (by decide) <| C.a1 S5 (D59 16 rfl) rfl rfl <| C.gl S5 (W H 242 rfl) (D59 17 rfl) 0 rfl 0 rfl fun T7 S7 => C.gm S7 (W H 401 rfl) (D59 18 rfl) 0 rfl 1 rfl fun T8 S8 => C.i1 S8 (D59 19 rfl) rfl <| C.iaload S8 (S8.atM 2 rfl) (D59 20 rfl) 159 rfl (by decide) 0 rfl rfl <| C.g S8 (D59 21 rfl) 163 rfl <| C.istoreN S8 (D59 22 rfl) 164 rfl #[vr se, vi 0, vi (-1), vi 1] rfl <| C.g S8 (D59 23 rfl) 782 rfl <| C.i1 S8 (D59 24 rfl) rfl ?_
  exact C.rI S8 (D59 25 rfl) [0] ⟨rfl, rfl, rfl⟩
theorem pd32 : parseMethodDescriptor "(IIIZ)I" = some ⟨[.int, .int, .int, .boolean], some .int⟩ := by decide +kernel
theorem repY (H : Hy a0 Z cst dce nona sfv) (se pr t b : Addr) (PT PB : Cell → Prop) (cs : List Int32) (cp : Int32) (ix : Nat) (po pn pa pb pcc pd plv : Addr) (kd : Int32) (hT : Tx lch Z t b PT PB cs) (hcp : Cpt cp) (hib : ix ≤ cs.length) (hn3 : cs.length ≤ 3) (hy : ¬ endF cs cp ix < 0) (hk : kd = 6 ∨ kd = 7 ∨ kd = 8) :
    Con lch Z consts_1 Y61 prog_35_method_16_code 9 (some .boolean) (rm 7 0 0 106) #[(.ref se), (.int 1)] [(se, O6 Z (.ref pr) (.ref nona) (.ref nona) (.ref t) (.int (n32 cs.length)) (.ref nona) (.int 0) (.int 0) (.int (n32 ix)))] [(pr, O5 Z (.ref po) (.ref pn) (.ref pa) (.ref pb) (.ref pcc) (.ref pd) (.ref plv) (.int 1) .null (.int 0) (.int 0) (.int 0)), (po, Ary Z .byte [(.int 1), (.int kd), (.int 21)]), (pn, Ary Z .int [(.int (-1)), (.int 2), (.int (-1))]), (pa, Ary Z .int [(.int cp), (.int ((-1 : Int32) - cp)), (.int 0)]), (pb, Ary Z .int [(.int 0), (.int 1), (.int 0)]), (pcc, Ary Z .int [(.int 0), (.int 1), (.int 0)]), (t, PT), (b, PB)]
      (fun rv L1 M1 => rv = some (.int 1) ∧ L1 = [(se, O6 Z (.ref pr) (.ref nona) (.ref nona) (.ref t) (.int (n32 cs.length)) (.ref nona) (.int 0) (.int 0) (.int (endF cs cp ix)))] ∧ M1 = []) := by
  refine Con.ob #[vr se, vi 1, us, us, us, us, us, us, us] (plainFor_of_name pn15) ?_
  intro p e s m below meth c T0 h0 C S0
  refine C.a1 S0 (D60 0 rfl) rfl rfl <| C.gl S0 (W H 290 rfl) (D60 1 rfl) 0 rfl 8 rfl fun T1 S1 => C.istoreN S1 (D60 2 rfl) 5 rfl #[vr se, vi 1, vi (n32 ix), us, us, us, us, us, us] rfl <| C.a1 S1 (D60 3 rfl) rfl rfl <| C.gl S1 (W H 242 rfl) (D60 4 rfl) 0 rfl 0 rfl fun T2 S2 => C.gm S2 (W H 425 rfl) (D60 5 rfl) 0 rfl 3 rfl fun T3 S3 => C.i1 S3 (D60 6 rfl) rfl <| C.iaload S3 (S3.atM 4 rfl) (D60 7 rfl) 14 rfl (by decide) 1 rfl rfl <| C.istoreN S3 (D60 8 rfl) 15 rfl #[vr se, vi 1, vi (n32 ix), vi 1, us, us, us, us, us] rfl <| C.a1 S3 (D60 9 rfl) rfl rfl <| C.gl S3 (W H 242 rfl) (D60 10 rfl) 0 rfl 0 rfl fun T4 S4 => C.gm S4 (W H 296 rfl) (D60 11 rfl) 0 rfl 0 rfl fun T5 S5 => C.i1 S5 (D60 12 rfl) rfl <| C.baload S5 (S5.atM 1 rfl) (D60 13 rfl) 24 rfl (by decide) 1 rfl rfl <| C.k2 S5 (D60 14 rfl) 7 rfl <| S5.cut (α := Unit) (H := fun uu => True) (f := fun uu T' => T'.setTop (mkF m 42 #[vr se, vi 1, vi (n32 ix), vi 1, us, us, us, us, us] [(.int 1)])) (fun T6 uu S6 huu => ?_) fun Ja => ?_
  · show Go p e below _ (T6.setTop (mkF m 42 #[vr se, vi 1, vi (n32 ix), vi 1, us, us, us, us, us] [(.int 1)]))
    refine C.istore S6 (D60 15 rfl) 44 rfl #[vr se, vi 1, vi (n32 ix), vi 1, vi 1, us, us, us, us] rfl <| C.k1 S6 (D60 16 rfl) 0 rfl <| C.istore S6 (D60 17 rfl) 47 rfl #[vr se, vi 1, vi (n32 ix), vi 1, vi 1, vi 0, us, us, us] rfl <| C.k1 S6 (D60 18 rfl) 0 rfl <| C.istore S6 (D60 19 rfl) 50 rfl #[vr se, vi 1, vi (n32 ix), vi 1, vi 1, vi 0, vi 0, us, us] rfl <| C.a1 S6 (D60 20 rfl) rfl rfl <| C.a1 S6 (D60 21 rfl) rfl rfl <| C.gl S6 (W H 242 rfl) (D60 22 rfl) 0 rfl 0 rfl fun T7 S7 => C.gm S7 (W H 297 rfl) (D60 23 rfl) 0 rfl 2 rfl fun T8 S8 => C.i1 S8 (D60 24 rfl) rfl <| C.iaload S8 (S8.atM 3 rfl) (D60 25 rfl) 60 rfl (by decide) 1 rfl rfl <| C.a1 S8 (D60 26 rfl) rfl rfl <| C.gl S8 (W H 290 rfl) (D60 27 rfl) 0 rfl 8 rfl fun T9 S9 => C.xp (y' := Y58) S9 (S9.exa 0 rfl) (W H 302 rfl) (W H 303 rfl) (W H 278 rfl) (W H 279 rfl) (W H 304 rfl) (W H 238 rfl) (W H 305 rfl) (endC H se pr t b PT PB cs cp ix (n32 ix) ((-1 : Int32) - cp) hT hcp hib hn3 rfl) (D60 28 rfl) pd23 [(.int ((-1 : Int32) - cp)), (.int (n32 ix))] [] [] (rlN (S9.at 0 rfl) (rlN (S9.atM 6 rfl) (rlN (S9.atM 7 rfl) rl0))) ?_
    rintro T10 _ _ _ ⟨rfl, rfl, rfl⟩ hro10 S10
    replace S10 := S10.n0
    refine C.istore S10 (D60 29 rfl) 69 rfl #[vr se, vi 1, vi (n32 ix), vi 1, vi 1, vi 0, vi 0, vi (endF cs cp ix), us] rfl <| C.i2 S10 (D60 30 rfl) rfl <| C.i2 S10 (D60 31 rfl) rfl <| C.icmp_geF S10 (D60 32 rfl) 76 rfl (by decide) <| C.i2 S10 (D60 33 rfl) rfl <| C.if_lt S10 (D60 34 rfl) 144 81 (by decide) (by decide) rfl (fun hc12 => absurd hc12 hy) fun hc12 => C.i2 S10 (D60 35 rfl) rfl <| C.i2 S10 (D60 36 rfl) rfl <| C.a1 S10 (D60 37 rfl) rfl rfl <| C.gl S10 (W H 290 rfl) (D60 38 rfl) 0 rfl 8 rfl fun T13 S13 => C.isub S13 (D60 39 rfl) 90 rfl ((endF cs cp ix) - (n32 ix)) rfl <| C.k1 S13 (D60 40 rfl) 2 rfl <| C.icmp_ne S13 (D60 41 rfl) 98 94 (by decide) (by decide) rfl (fun hc14 => ?_) fun hc14 => ?_
    · refine C.k1 S13 (D60 42 rfl) 0 rfl <| C.ior S13 (D60 43 rfl) 100 rfl (0 : Int32) (by decide) <| C.istore S13 (D60 44 rfl) 102 rfl #[vr se, vi 1, vi (n32 ix), vi 1, vi 1, vi 0, vi 0, vi (endF cs cp ix), us] rfl <| C.a1 S13 (D60 45 rfl) rfl rfl <| C.i2 S13 (D60 46 rfl) rfl <| C.putfield S13 (host := "") (Or.inl (W H 290 rfl)) Via.refl (D60 47 rfl) 0 rfl 8 rfl (Or.inl (W H 291 rfl)) (W H 237 rfl) (ty := .int) (by decide) rfl rfl 108 rfl fun T15 S15 => C.iinc S15 (D60 48 rfl) 111 rfl rfl 1 1 rfl (by decide) #[vr se, vi 1, vi (n32 ix), vi 1, vi 1, vi 1, vi 0, vi (endF cs cp ix), us] rfl <| C.i2 S15 (D60 49 rfl) rfl <| C.i2 S15 (D60 50 rfl) rfl <| C.icmp_geT S15 (D60 51 rfl) 138 rfl (by decide) <| C.k1 S15 (D60 52 rfl) (-1) rfl <| C.istore S15 (D60 53 rfl) 141 rfl #[vr se, vi 1, vi (n32 ix), vi 1, vi 1, vi 1, vi 0, vi (-1), us] rfl <| C.g S15 (D60 54 rfl) 69 rfl <| C.i2 S15 (D60 30 rfl) rfl ?_
      refine C.i2 S15 (D60 31 rfl) rfl <| C.icmp_geT S15 (D60 32 rfl) 144 rfl (by decide) <| C.i2 S15 (D60 55 rfl) rfl <| C.i1 S15 (D60 56 rfl) rfl <| C.icmp_ltF S15 (D60 57 rfl) 150 rfl (by decide) <| C.k1 S15 (D60 58 rfl) 1 rfl <| C.g S15 (D60 59 rfl) 155 rfl <| C.istore S15 (D60 60 rfl) 157 rfl #[vr se, vi 1, vi (n32 ix), vi 1, vi 1, vi 1, vi 0, vi (-1), vi 1] rfl <| C.i2 S15 (D60 61 rfl) rfl <| C.if_eqF S15 (D60 62 rfl) 162 rfl (by decide) <| C.a1 S15 (D60 63 rfl) rfl rfl <| C.gl S15 (W H 242 rfl) (D60 64 rfl) 0 rfl 0 rfl fun T20 S20 => C.gm S20 (W H 296 rfl) (D60 65 rfl) 0 rfl 0 rfl fun T21 S21 => C.i1 S21 (D60 66 rfl) rfl <| C.baload S21 (S21.atM 1 rfl) (D60 67 rfl) 171 rfl (by decide) 1 rfl rfl <| C.k2 S21 (D60 68 rfl) 6 rfl <| S21.cut (α := Unit) (H := fun uu => True) (f := fun uu T' => T'.setTop (mkF m 188 #[vr se, vi 1, vi (n32 ix), vi 1, vi 1, vi 1, vi 0, vi (-1), vi 1] [])) (fun T22 uu S22 huu => ?_) fun Jb => ?_
      · show Go p e below _ (T22.setTop (mkF m 188 #[vr se, vi 1, vi (n32 ix), vi 1, vi 1, vi 1, vi 0, vi (-1), vi 1] []))
        refine C.i2 S22 (D60 69 rfl) rfl <| C.if_eqF S22 (D60 70 rfl) 193 rfl (by decide) <| C.a1 S22 (D60 71 rfl) rfl rfl <| C.gl S22 (W H 242 rfl) (D60 72 rfl) 0 rfl 0 rfl fun T24 S24 => C.gm S24 (W H 296 rfl) (D60 73 rfl) 0 rfl 0 rfl fun T25 S25 => C.i1 S25 (D60 74 rfl) rfl <| C.baload S25 (S25.atM 1 rfl) (D60 75 rfl) 202 rfl (by decide) 1 rfl rfl <| C.k2 S25 (D60 76 rfl) 6 rfl <| S25.cut (α := Unit) (H := fun uu => True) (f := fun uu T' => T'.setTop (mkF m 226 #[vr se, vi 1, vi (n32 ix), vi 1, vi 1, vi 1, vi 0, vi (-1), vi 1] [])) (fun T26 uu S26 huu => ?_) fun Jc => ?_
        · show Go p e below _ (T26.setTop (mkF m 226 #[vr se, vi 1, vi (n32 ix), vi 1, vi 1, vi 1, vi 0, vi (-1), vi 1] []))
          refine C.i2 S26 (D60 77 rfl) rfl <| C.if_eqF S26 (D60 78 rfl) 231 rfl (by decide) <| C.a1 S26 (D60 79 rfl) rfl rfl <| C.gl S26 (W H 242 rfl) (D60 80 rfl) 0 rfl 0 rfl fun T28 S28 => C.gm S28 (W H 296 rfl) (D60 81 rfl) 0 rfl 0 rfl fun T29 S29 => C.i1 S29 (D60 82 rfl) rfl <| C.baload S29 (S29.atM 1 rfl) (D60 83 rfl) 240 rfl (by decide) 1 rfl rfl <| C.k2 S29 (D60 84 rfl) 7 rfl <| S29.cut (α := Unit) (H := fun uu => True) (f := fun uu T' => T'.setTop (mkF m 268 #[vr se, vi 1, vi (n32 ix), vi 1, vi 1, vi 1, vi 0, vi (-1), vi 1] [])) (fun T30 uu S30 huu => ?_) fun Jd => ?_
          · show Go p e below _ (T30.setTop (mkF m 268 #[vr se, vi 1, vi (n32 ix), vi 1, vi 1, vi 1, vi 0, vi (-1), vi 1] []))
            refine C.i2 S30 (D60 85 rfl) rfl ?_
            exact C.rN S30 (D60 86 rfl) 1 (by decide) [0] ⟨rfl, rfl, rfl⟩
          · refine C.icmp_ne S29 (D60 87 rfl) 268 245 (by decide) (by decide) rfl (fun hc31 => ?_) fun hc31 => ?_
            · exact Jd _ () S29 trivial
            · refine C.i2 S29 (D60 88 rfl) rfl <| C.a1 S29 (D60 89 rfl) rfl rfl <| C.gl S29 (W H 242 rfl) (D60 90 rfl) 0 rfl 0 rfl fun T32 S32 => C.gm S32 (W H 426 rfl) (D60 91 rfl) 0 rfl 4 rfl fun T33 S33 => C.i1 S33 (D60 92 rfl) rfl <| C.iaload S33 (S33.atM 5 rfl) (D60 93 rfl) 256 rfl (by decide) 1 rfl rfl <| C.icmp_geT S33 (D60 94 rfl) 268 rfl (by decide) ?_
              exact Jd _ () S33 trivial
        · refine C.icmp_ne S25 (D60 95 rfl) 226 207 (by decide) (by decide) rfl (fun hc35 => ?_) fun hc35 => ?_
          · exact Jc _ () S25 trivial
          · refine C.i2 S25 (D60 96 rfl) rfl <| C.i1 S25 (D60 97 rfl) rfl <| C.icmp_leT S25 (D60 98 rfl) 226 rfl (by decide) ?_
            exact Jc _ () S25 trivial
      · refine C.icmp_ne S21 (D60 99 rfl) 188 176 (by decide) (by decide) rfl (fun hc37 => ?_) fun hc37 => ?_
        · exact Jb _ () S21 trivial
        · refine C.a1 S21 (D60 100 rfl) rfl rfl <| C.i1 S21 (D60 101 rfl) rfl <| C.i1 S21 (D60 102 rfl) rfl <| C.i2 S21 (D60 103 rfl) rfl <| C.i2 S21 (D60 104 rfl) rfl <| C.xp (y' := Y58) S21 (S21.exa 0 rfl) (W H 434 rfl) (W H 435 rfl) (W H 278 rfl) (W H 279 rfl) (W H 436 rfl) (W H 238 rfl) (W H 437 rfl) (pasO H se pr t b PT PB cs po pn pa pb pcc pd plv (endF cs cp ix) (n32 ix) (0 : Int32)) (D60 105 rfl) pd32 [(.int 1), (.int (n32 ix)), (.int 1), (.int 0)] [] [] (rlN (S21.at 0 rfl) (rlN (S21.atM 0 rfl) (rlN (S21.atM 4 rfl) rl0))) ?_
          rintro T38 _ _ _ ⟨rfl, rfl, rfl⟩ hro38 S38
          replace S38 := S38.n0
          refine C.istore S38 (D60 106 rfl) 188 rfl #[vr se, vi 1, vi (n32 ix), vi 1, vi 1, vi 1, vi 0, vi (-1), vi 1] rfl ?_
          exact Jb _ () S38 trivial
    · refine C.k1 S13 (D60 107 rfl) 1 rfl <| C.g S13 (D60 108 rfl) 99 rfl <| C.ior S13 (D60 43 rfl) 100 rfl (1 : Int32) (by decide) <| C.istore S13 (D60 44 rfl) 102 rfl #[vr se, vi 1, vi (n32 ix), vi 1, vi 1, vi 0, vi 1, vi (endF cs cp ix), us] rfl <| C.a1 S13 (D60 45 rfl) rfl rfl <| C.i2 S13 (D60 46 rfl) rfl <| C.putfield S13 (host := "") (Or.inl (W H 290 rfl)) Via.refl (D60 47 rfl) 0 rfl 8 rfl (Or.inl (W H 291 rfl)) (W H 237 rfl) (ty := .int) (by decide) rfl rfl 108 rfl fun T39 S39 => C.iinc S39 (D60 48 rfl) 111 rfl rfl 1 1 rfl (by decide) #[vr se, vi 1, vi (n32 ix), vi 1, vi 1, vi 1, vi 1, vi (endF cs cp ix), us] rfl <| C.i2 S39 (D60 49 rfl) rfl <| C.i2 S39 (D60 50 rfl) rfl <| C.icmp_geT S39 (D60 51 rfl) 138 rfl (by decide) <| C.k1 S39 (D60 52 rfl) (-1) rfl <| C.istore S39 (D60 53 rfl) 141 rfl #[vr se, vi 1, vi (n32 ix), vi 1, vi 1, vi 1, vi 1, vi (-1), us] rfl <| C.g S39 (D60 54 rfl) 69 rfl ?_
      refine C.i2 S39 (D60 30 rfl) rfl <| C.i2 S39 (D60 31 rfl) rfl <| C.icmp_geT S39 (D60 32 rfl) 144 rfl (by decide) <| C.i2 S39 (D60 55 rfl) rfl <| C.i1 S39 (D60 56 rfl) rfl <| C.icmp_ltF S39 (D60 57 rfl) 150 rfl (by decide) <| C.k1 S39 (D60 58 rfl) 1 rfl <| C.g S39 (D60 59 rfl) 155 rfl <| C.istore S39 (D60 60 rfl) 157 rfl #[vr se, vi 1, vi (n32 ix), vi 1, vi 1, vi 1, vi 1, vi (-1), vi 1] rfl <| C.i2 S39 (D60 61 rfl) rfl <| C.if_eqF S39 (D60 62 rfl) 162 rfl (by decide) <| C.a1 S39 (D60 63 rfl) rfl rfl <| C.gl S39 (W H 242 rfl) (D60 64 rfl) 0 rfl 0 rfl fun T44 S44 => C.gm S44 (W H 296 rfl) (D60 65 rfl) 0 rfl 0 rfl fun T45 S45 => C.i1 S45 (D60 66 rfl) rfl <| C.baload S45 (S45.atM 1 rfl) (D60 67 rfl) 171 rfl (by decide) 1 rfl rfl <| C.k2 S45 (D60 68 rfl) 6 rfl <| S45.cut (α := Unit) (H := fun uu => True) (f := fun uu T' => T'.setTop (mkF m 188 #[vr se, vi 1, vi (n32 ix), vi 1, vi 1, vi 1, vi 1, vi (-1), vi 1] [])) (fun T46 uu S46 huu => ?_) fun Jb => ?_
      · show Go p e below _ (T46.setTop (mkF m 188 #[vr se, vi 1, vi (n32 ix), vi 1, vi 1, vi 1, vi 1, vi (-1), vi 1] []))
        refine C.i2 S46 (D60 69 rfl) rfl <| C.if_eqF S46 (D60 70 rfl) 193 rfl (by decide) <| C.a1 S46 (D60 71 rfl) rfl rfl <| C.gl S46 (W H 242 rfl) (D60 72 rfl) 0 rfl 0 rfl fun T48 S48 => C.gm S48 (W H 296 rfl) (D60 73 rfl) 0 rfl 0 rfl fun T49 S49 => C.i1 S49 (D60 74 rfl) rfl <| C.baload S49 (S49.atM 1 rfl) (D60 75 rfl) 202 rfl (by decide) 1 rfl rfl <| C.k2 S49 (D60 76 rfl) 6 rfl <| S49.cut (α := Unit) (H := fun uu => True) (f := fun uu T' => T'.setTop (mkF m 226 #[vr se, vi 1, vi (n32 ix), vi 1, vi 1, vi 1, vi 1, vi (-1), vi 1] [])) (fun T50 uu S50 huu => ?_) fun Jc => ?_
        · show Go p e below _ (T50.setTop (mkF m 226 #[vr se, vi 1, vi (n32 ix), vi 1, vi 1, vi 1, vi 1, vi (-1), vi 1] []))
          refine C.i2 S50 (D60 77 rfl) rfl <| C.if_eqF S50 (D60 78 rfl) 231 rfl (by decide) <| C.a1 S50 (D60 79 rfl) rfl rfl <| C.gl S50 (W H 242 rfl) (D60 80 rfl) 0 rfl 0 rfl fun T52 S52 => C.gm S52 (W H 296 rfl) (D60 81 rfl) 0 rfl 0 rfl fun T53 S53 => C.i1 S53 (D60 82 rfl) rfl <| C.baload S53 (S53.atM 1 rfl) (D60 83 rfl) 240 rfl (by decide) 1 rfl rfl <| C.k2 S53 (D60 84 rfl) 7 rfl <| S53.cut (α := Unit) (H := fun uu => True) (f := fun uu T' => T'.setTop (mkF m 268 #[vr se, vi 1, vi (n32 ix), vi 1, vi 1, vi 1, vi 1, vi (-1), vi 1] [])) (fun T54 uu S54 huu => ?_) fun Jd => ?_
          · show Go p e below _ (T54.setTop (mkF m 268 #[vr se, vi 1, vi (n32 ix), vi 1, vi 1, vi 1, vi 1, vi (-1), vi 1] []))
            refine C.i2 S54 (D60 85 rfl) rfl ?_
            exact C.rN S54 (D60 86 rfl) 1 (by decide) [0] ⟨rfl, rfl, rfl⟩
          · refine C.icmp_ne S53 (D60 87 rfl) 268 245 (by decide) (by decide) rfl (fun hc55 => ?_) fun hc55 => ?_
            · exact Jd _ () S53 trivial
            · refine C.i2 S53 (D60 88 rfl) rfl <| C.a1 S53 (D60 89 rfl) rfl rfl <| C.gl S53 (W H 242 rfl) (D60 90 rfl) 0 rfl 0 rfl fun T56 S56 => C.gm S56 (W H 426 rfl) (D60 91 rfl) 0 rfl 4 rfl fun T57 S57 => C.i1 S57 (D60 92 rfl) rfl <| C.iaload S57 (S57.atM 5 rfl) (D60 93 rfl) 256 rfl (by decide) 1 rfl rfl <| C.icmp_geT S57 (D60 94 rfl) 268 rfl (by decide) ?_
              exact Jd _ () S57 trivial
        · refine C.icmp_ne S49 (D60 95 rfl) 226 207 (by decide) (by decide) rfl (fun hc59 => ?_) fun hc59 => ?_
          · exact Jc _ () S49 trivial
          · refine C.i2 S49 (D60 96 rfl) rfl <| C.i1 S49 (D60 97 rfl) rfl <| C.icmp_leT S49 (D60 98 rfl) 226 rfl (by decide) ?_
            exact Jc _ () S49 trivial
      · refine C.icmp_ne S45 (D60 99 rfl) 188 176 (by decide) (by decide) rfl (fun hc61 => ?_) fun hc61 => ?_
        · exact Jb _ () S45 trivial
        · refine C.a1 S45 (D60 100 rfl) rfl rfl <| C.i1 S45 (D60 101 rfl) rfl <| C.i1 S45 (D60 102 rfl) rfl <| C.i2 S45 (D60 103 rfl) rfl <| C.i2 S45 (D60 104 rfl) rfl <| C.xp (y' := Y58) S45 (S45.exa 0 rfl) (W H 434 rfl) (W H 435 rfl) (W H 278 rfl) (W H 279 rfl) (W H 436 rfl) (W H 238 rfl) (W H 437 rfl) (pasO H se pr t b PT PB cs po pn pa pb pcc pd plv (endF cs cp ix) (n32 ix) (1 : Int32)) (D60 105 rfl) pd32 [(.int 1), (.int (n32 ix)), (.int 1), (.int 1)] [] [] (rlN (S45.at 0 rfl) (rlN (S45.atM 0 rfl) (rlN (S45.atM 4 rfl) rl0))) ?_
          rintro T62 _ _ _ ⟨rfl, rfl, rfl⟩ hro62 S62
          replace S62 := S62.n0
          refine C.istore S62 (D60 106 rfl) 188 rfl #[vr se, vi 1, vi (n32 ix), vi 1, vi 1, vi 1, vi 1, vi (-1), vi 1] rfl ?_
          exact Jb _ () S62 trivial
  · refine C.icmp_ne S5 (D60 109 rfl) 33 29 (by decide) (by decide) rfl (fun hc63 => ?_) fun hc63 => ?_
    · refine C.a1 S5 (D60 110 rfl) rfl rfl <| C.gl S5 (W H 242 rfl) (D60 111 rfl) 0 rfl 0 rfl fun T64 S64 => C.gm S64 (W H 426 rfl) (D60 112 rfl) 0 rfl 4 rfl fun T65 S65 => C.i1 S65 (D60 113 rfl) rfl <| C.iaload S65 (S65.atM 5 rfl) (D60 114 rfl) 42 rfl (by decide) 1 rfl rfl ?_
      exact Ja _ () S65 trivial
    · refine C.i1 S5 (D60 115 rfl) rfl <| C.g S5 (D60 116 rfl) 42 rfl ?_
      exact Ja _ () S5 trivial
theorem stpRY (H : Hy a0 Z cst dce nona sfv) (se pr t b : Addr) (PT PB : Cell → Prop) (cs : List Int32) (cp : Int32) (ix : Nat) (po pn pa pb pcc pd plv : Addr) (kd : Int32) (hT : Tx lch Z t b PT PB cs) (hcp : Cpt cp) (hib : ix ≤ cs.length) (hn3 : cs.length ≤ 3) (hy : ¬ endF cs cp ix < 0) (hk : kd = 6 ∨ kd = 7 ∨ kd = 8) :
    Con lch Z consts_1 Y60 prog_35_method_4_code 4 (some .int) (rm 8 0 0 126) #[(.ref se), (.int 1), (.int (-1))] [(se, O6 Z (.ref pr) (.ref nona) (.ref nona) (.ref t) (.int (n32 cs.length)) (.ref nona) (.int 0) (.int 0) (.int (n32 ix)))] [(pr, O5 Z (.ref po) (.ref pn) (.ref pa) (.ref pb) (.ref pcc) (.ref pd) (.ref plv) (.int 1) .null (.int 0) (.int 0) (.int 0)), (po, Ary Z .byte [(.int 1), (.int kd), (.int 21)]), (pn, Ary Z .int [(.int (-1)), (.int 2), (.int (-1))]), (pa, Ary Z .int [(.int cp), (.int ((-1 : Int32) - cp)), (.int 0)]), (pb, Ary Z .int [(.int 0), (.int 1), (.int 0)]), (pcc, Ary Z .int [(.int 0), (.int 1), (.int 0)]), (t, PT), (b, PB)]
      (fun rv L1 M1 => rv = some (.int 2) ∧ L1 = [(se, O6 Z (.ref pr) (.ref nona) (.ref nona) (.ref t) (.int (n32 cs.length)) (.ref nona) (.int 0) (.int 0) (.int (endF cs cp ix)))] ∧ M1 = []) := by
  refine Con.ob #[vr se, vi 1, vi (-1), us] (plainFor_of_name pn15) ?_
  intro p e s m below meth c T0 h0 C S0
  refine C.a1 S0 (D59 0 rfl) rfl rfl <| C.gl S0 (W H 242 rfl) (D59 1 rfl) 0 rfl 0 rfl fun T1 S1 => C.gm S1 (W H 296 rfl) (D59 2 rfl) 0 rfl 0 rfl fun T2 S2 => C.i1 S2 (D59 3 rfl) rfl <| C.baload S2 (S2.atM 1 rfl) (D59 4 rfl) 9 rfl (by decide) 1 rfl rfl <| C.tableswitch S2 (D59 5 rfl) (by rcases hk with rfl | rfl | rfl <;> decide) (off := 304) (by rcases hk with rfl | rfl | rfl <;> rfl) (by decide) 313 (by decide) <| C.a1 S2 (D59 26 rfl) rfl rfl <| C.i1 S2 (D59 27 rfl) rfl <| C.xp (y' := Y58) S2 (S2.exa 0 rfl) (W H 421 rfl) (W H 422 rfl) (W H 278 rfl) (W H 279 rfl) (W H 423 rfl) (W H 238 rfl) (W H 424 rfl) (repY H se pr t b PT PB cs cp ix po pn pa pb pcc pd plv kd hT hcp hib hn3 hy hk) (D59 28 rfl) pd31 [(.int 1)] [] [0] (S2.roP (is := [0]) (js := [0, 1, 2, 3, 4, 5, 6, 7]) rfl rfl) ?_
  rintro T3 _ _ _ ⟨rfl, rfl, rfl⟩ hro3 S3
  replace S3 := S3.nc (L' := [(se, O6 Z (.ref pr) (.ref nona) (.ref nona) (.ref t) (.int (n32 cs.length)) (.ref nona) (.int 0) (.int 0) (.int (endF cs cp ix)))]) rfl
  refine C.if_eqF S3 (D59 29 rfl) 321 rfl (by decide) <| C.a1 S3 (D59 30 rfl) rfl rfl <| C.gl S3 (W H 242 rfl) (D59 31 rfl) 0 rfl 0 rfl fun T5 S5 => C.gm S5 (W H 401 rfl) (D59 32 rfl) 0 rfl 1 rfl fun T6 S6 => C.i1 S6 (D59 33 rfl) rfl <| C.iaload S6 (S6.atM 2 rfl) (D59 34 rfl) 330 rfl (by decide) 1 rfl rfl <| C.g S6 (D59 35 rfl) 334 rfl <| C.istoreN S6 (D59 36 rfl) 335 rfl #[vr se, vi 1, vi (-1), vi 2] rfl <| C.g S6 (D59 37 rfl) 782 rfl <| C.i1 S6 (D59 24 rfl) rfl ?_
  exact C.rI S6 (D59 25 rfl) [0] ⟨rfl, rfl, rfl⟩
theorem conN (H : Hy a0 Z cst dce nona sfv) (se pr t b : Addr) (PT PB : Cell → Prop) (cs : List Int32) (cp : Int32) (ix : Nat) (ax : Int32) (hT : Tx lch Z t b PT PB cs) (hcp : Cpt cp) (hib : ix ≤ cs.length) (hn3 : cs.length ≤ 3) (hy : endF cs cp ix < 0) (hax : ax = (-1 : Int32) - cp) :
    Con lch Z consts_1 Y59 prog_35_method_12_code 3 (some .boolean) (rm 7 0 0 106) #[(.ref se), (.int ax)] [(se, O6 Z (.ref pr) (.ref nona) (.ref nona) (.ref t) (.int (n32 cs.length)) (.ref nona) (.int 0) (.int 0) (.int (n32 ix)))] [(t, PT), (b, PB)]
      (fun rv L1 M1 => rv = some (.int 0) ∧ L1 = [(se, O6 Z (.ref pr) (.ref nona) (.ref nona) (.ref t) (.int (n32 cs.length)) (.ref nona) (.int 0) (.int 0) (.int (n32 ix)))] ∧ M1 = []) := by
  refine Con.ob #[vr se, vi ax, us] (plainFor_of_name pn15) ?_
  intro p e s m below meth c T0 h0 C S0
  refine C.a1 S0 (D58 0 rfl) rfl rfl <| C.i1 S0 (D58 1 rfl) rfl <| C.a1 S0 (D58 2 rfl) rfl rfl <| C.gl S0 (W H 290 rfl) (D58 3 rfl) 0 rfl 8 rfl fun T1 S1 => C.xp (y' := Y58) S1 (S1.exa 0 rfl) (W H 302 rfl) (W H 303 rfl) (W H 278 rfl) (W H 279 rfl) (W H 304 rfl) (W H 238 rfl) (W H 305 rfl) (endC H se pr t b PT PB cs cp ix (n32 ix) ax hT hcp hib hn3 hax) (D58 4 rfl) pd23 [(.int ax), (.int (n32 ix))] [] [] (rlN (S1.at 0 rfl) (rlN (S1.atM 0 rfl) (rlN (S1.atM 1 rfl) rl0))) ?_
  rintro T2 _ _ _ ⟨rfl, rfl, rfl⟩ hro2 S2
  replace S2 := S2.n0
  refine C.istoreN S2 (D58 5 rfl) 10 rfl #[vr se, vi ax, vi (endF cs cp ix)] rfl <| C.i1 S2 (D58 6 rfl) rfl ?_
  refine C.if_lt S2 (D58 7 rfl) 19 14 (by decide) (by decide) rfl (fun hc3 => ?_) fun hc3 => absurd hy hc3
  refine C.i1 S2 (D58 11 rfl) rfl ?_
  refine C.if_lt S2 (D58 12 rfl) 27 23 (by decide) (by decide) rfl (fun hc4 => ?_) fun hc4 => absurd hy hc4
  refine C.k1 S2 (D58 16 rfl) 0 rfl ?_
  exact C.rN S2 (D58 15 rfl) 0 (by decide) [0] ⟨rfl, rfl, rfl⟩
theorem stpLN (H : Hy a0 Z cst dce nona sfv) (se pr t b : Addr) (PT PB : Cell → Prop) (cs : List Int32) (cp : Int32) (ix : Nat) (po pn pa pb pcc pd plv : Addr) (hT : Tx lch Z t b PT PB cs) (hcp : Cpt cp) (hib : ix ≤ cs.length) (hn3 : cs.length ≤ 3) (hy : endF cs cp ix < 0) :
    Con lch Z consts_1 Y60 prog_35_method_4_code 4 (some .int) (rm 8 0 0 120) #[(.ref se), (.int 0), (.int (-1))] [(se, O6 Z (.ref pr) (.ref nona) (.ref nona) (.ref t) (.int (n32 cs.length)) (.ref nona) (.int 0) (.int 0) (.int (n32 ix)))] [(pr, O5 Z (.ref po) (.ref pn) (.ref pa) (.ref pb) (.ref pcc) (.ref pd) (.ref plv) (.int 0) .null (.int 0) (.int 0) (.int 0)), (po, Ary Z .byte [(.int 1), (.int 21)]), (pn, Ary Z .int [(.int 1), (.int (-1))]), (pa, Ary Z .int [(.int cp), (.int 0)]), (pb, Ary Z .int [(.int 0), (.int 0)]), (pcc, Ary Z .int [(.int 0), (.int 0)]), (t, PT), (b, PB)]
      (fun rv L1 M1 => rv = some (.int (-1)) ∧ L1 = [(se, O6 Z (.ref pr) (.ref nona) (.ref nona) (.ref t) (.int (n32 cs.length)) (.ref nona) (.int 0) (.int 0) (.int (n32 ix)))] ∧ M1 = []) := by
  refine Con.ob #[vr se, vi 0, vi (-1), us] (plainFor_of_name pn15) ?_
  intro p e s m below meth c T0 h0 C S0
  refine C.a1 S0 (D59 0 rfl) rfl rfl <| C.gl S0 (W H 242 rfl) (D59 1 rfl) 0 rfl 0 rfl fun T1 S1 => C.gm S1 (W H 296 rfl) (D59 2 rfl) 0 rfl 0 rfl fun T2 S2 => C.i1 S2 (D59 3 rfl) rfl <| C.baload S2 (S2.atM 1 rfl) (D59 4 rfl) 9 rfl (by decide) 0 rfl rfl <| C.tableswitch S2 (D59 5 rfl) (by decide) (off := 123) rfl (by decide) 132 (by decide) <| C.a1 S2 (D59 6 rfl) rfl rfl <| C.k1 S2 (D59 7 rfl) (-1) rfl <| C.a1 S2 (D59 8 rfl) rfl rfl <| C.gl S2 (W H 242 rfl) (D59 9 rfl) 0 rfl 0 rfl fun T3 S3 => C.gm S3 (W H 297 rfl) (D59 10 rfl) 0 rfl 2 rfl fun T4 S4 => C.i1 S4 (D59 11 rfl) rfl <| C.iaload S4 (S4.atM 3 rfl) (D59 12 rfl) 143 rfl (by decide) 0 rfl rfl <| C.isub S4 (D59 13 rfl) 144 rfl ((-1 : Int32) - cp) rfl <| C.xp (y' := Y58) S4 (S4.exa 0 rfl) (W H 298 rfl) (W H 299 rfl) (W H 278 rfl) (W H 279 rfl) (W H 300 rfl) (W H 238 rfl) (W H 301 rfl) (conN H se pr t b PT PB cs cp ix ((-1 : Int32) - cp) hT hcp hib hn3 hy rfl) (D59 14 rfl) pd31 [(.int ((-1 : Int32) - cp))] [] [0] (S4.roP (is := [0]) (js := [6, 7]) rfl rfl) ?_
  rintro T5 _ _ _ ⟨rfl, rfl, rfl⟩ hro5 S5
  replace S5 := S5.nc (L' := [(se, O6 Z (.ref pr) (.ref nona) (.ref nona) (.ref t) (.int (n32 cs.length)) (.ref nona) (.int 0) (.int 0) (.int (n32 ix)))]) rfl
  refine C.if_eqT S5 (D59 15 rfl) 162 rfl (by decide) <| C.k1 S5 (D59 38 rfl) (-1) rfl <| C.istoreN S5 (D59 22 rfl) 164 rfl #[vr se, vi 0, vi (-1), vi (-1)] rfl <| C.g S5 (D59 23 rfl) 782 rfl <| C.i1 S5 (D59 24 rfl) rfl ?_
  exact C.rI S5 (D59 25 rfl) [0] ⟨rfl, rfl, rfl⟩
theorem repN (H : Hy a0 Z cst dce nona sfv) (se pr t b : Addr) (PT PB : Cell → Prop) (cs : List Int32) (cp : Int32) (ix : Nat) (po pn pa pb pcc pd plv : Addr) (kd : Int32) (hT : Tx lch Z t b PT PB cs) (hcp : Cpt cp) (hib : ix ≤ cs.length) (hn3 : cs.length ≤ 3) (hy : endF cs cp ix < 0) (hk : kd = 6 ∨ kd = 7 ∨ kd = 8) :
    Con lch Z consts_1 Y61 prog_35_method_16_code 9 (some .boolean) (rm 7 0 0 106) #[(.ref se), (.int 1)] [(se, O6 Z (.ref pr) (.ref nona) (.ref nona) (.ref t) (.int (n32 cs.length)) (.ref nona) (.int 0) (.int 0) (.int (n32 ix)))] [(pr, O5 Z (.ref po) (.ref pn) (.ref pa) (.ref pb) (.ref pcc) (.ref pd) (.ref plv) (.int 1) .null (.int 0) (.int 0) (.int 0)), (po, Ary Z .byte [(.int 1), (.int kd), (.int 21)]), (pn, Ary Z .int [(.int (-1)), (.int 2), (.int (-1))]), (pa, Ary Z .int [(.int cp), (.int ((-1 : Int32) - cp)), (.int 0)]), (pb, Ary Z .int [(.int 0), (.int 1), (.int 0)]), (pcc, Ary Z .int [(.int 0), (.int 1), (.int 0)]), (t, PT), (b, PB)]
      (fun rv L1 M1 => rv = some (.int 0) ∧ L1 = [(se, O6 Z (.ref pr) (.ref nona) (.ref nona) (.ref t) (.int (n32 cs.length)) (.ref nona) (.int 0) (.int 0) (.int (n32 ix)))] ∧ M1 = []) := by
  refine Con.ob #[vr se, vi 1, us, us, us, us, us, us, us] (plainFor_of_name pn15) ?_
  intro p e s m below meth c T0 h0 C S0
  refine C.a1 S0 (D60 0 rfl) rfl rfl <| C.gl S0 (W H 290 rfl) (D60 1 rfl) 0 rfl 8 rfl fun T1 S1 => C.istoreN S1 (D60 2 rfl) 5 rfl #[vr se, vi 1, vi (n32 ix), us, us, us, us, us, us] rfl <| C.a1 S1 (D60 3 rfl) rfl rfl <| C.gl S1 (W H 242 rfl) (D60 4 rfl) 0 rfl 0 rfl fun T2 S2 => C.gm S2 (W H 425 rfl) (D60 5 rfl) 0 rfl 3 rfl fun T3 S3 => C.i1 S3 (D60 6 rfl) rfl <| C.iaload S3 (S3.atM 4 rfl) (D60 7 rfl) 14 rfl (by decide) 1 rfl rfl <| C.istoreN S3 (D60 8 rfl) 15 rfl #[vr se, vi 1, vi (n32 ix), vi 1, us, us, us, us, us] rfl <| C.a1 S3 (D60 9 rfl) rfl rfl <| C.gl S3 (W H 242 rfl) (D60 10 rfl) 0 rfl 0 rfl fun T4 S4 => C.gm S4 (W H 296 rfl) (D60 11 rfl) 0 rfl 0 rfl fun T5 S5 => C.i1 S5 (D60 12 rfl) rfl <| C.baload S5 (S5.atM 1 rfl) (D60 13 rfl) 24 rfl (by decide) 1 rfl rfl <| C.k2 S5 (D60 14 rfl) 7 rfl <| S5.cut (α := Unit) (H := fun uu => True) (f := fun uu T' => T'.setTop (mkF m 42 #[vr se, vi 1, vi (n32 ix), vi 1, us, us, us, us, us] [(.int 1)])) (fun T6 uu S6 huu => ?_) fun Ja => ?_
  · show Go p e below _ (T6.setTop (mkF m 42 #[vr se, vi 1, vi (n32 ix), vi 1, us, us, us, us, us] [(.int 1)]))
    refine C.istore S6 (D60 15 rfl) 44 rfl #[vr se, vi 1, vi (n32 ix), vi 1, vi 1, us, us, us, us] rfl <| C.k1 S6 (D60 16 rfl) 0 rfl <| C.istore S6 (D60 17 rfl) 47 rfl #[vr se, vi 1, vi (n32 ix), vi 1, vi 1, vi 0, us, us, us] rfl <| C.k1 S6 (D60 18 rfl) 0 rfl <| C.istore S6 (D60 19 rfl) 50 rfl #[vr se, vi 1, vi (n32 ix), vi 1, vi 1, vi 0, vi 0, us, us] rfl <| C.a1 S6 (D60 20 rfl) rfl rfl <| C.a1 S6 (D60 21 rfl) rfl rfl <| C.gl S6 (W H 242 rfl) (D60 22 rfl) 0 rfl 0 rfl fun T7 S7 => C.gm S7 (W H 297 rfl) (D60 23 rfl) 0 rfl 2 rfl fun T8 S8 => C.i1 S8 (D60 24 rfl) rfl <| C.iaload S8 (S8.atM 3 rfl) (D60 25 rfl) 60 rfl (by decide) 1 rfl rfl <| C.a1 S8 (D60 26 rfl) rfl rfl <| C.gl S8 (W H 290 rfl) (D60 27 rfl) 0 rfl 8 rfl fun T9 S9 => C.xp (y' := Y58) S9 (S9.exa 0 rfl) (W H 302 rfl) (W H 303 rfl) (W H 278 rfl) (W H 279 rfl) (W H 304 rfl) (W H 238 rfl) (W H 305 rfl) (endC H se pr t b PT PB cs cp ix (n32 ix) ((-1 : Int32) - cp) hT hcp hib hn3 rfl) (D60 28 rfl) pd23 [(.int ((-1 : Int32) - cp)), (.int (n32 ix))] [] [] (rlN (S9.at 0 rfl) (rlN (S9.atM 6 rfl) (rlN (S9.atM 7 rfl) rl0))) ?_
    rintro T10 _ _ _ ⟨rfl, rfl, rfl⟩ hro10 S10
    replace S10 := S10.n0
    refine C.istore S10 (D60 29 rfl) 69 rfl #[vr se, vi 1, vi (n32 ix), vi 1, vi 1, vi 0, vi 0, vi (endF cs cp ix), us] rfl <| C.i2 S10 (D60 30 rfl) rfl <| C.i2 S10 (D60 31 rfl) rfl <| C.icmp_geF S10 (D60 32 rfl) 76 rfl (by decide) <| C.i2 S10 (D60 33 rfl) rfl ?_
    refine C.if_lt S10 (D60 34 rfl) 144 81 (by decide) (by decide) rfl (fun hc12 => ?_) fun hc12 => absurd hy hc12
    refine C.i2 S10 (D60 55 rfl) rfl <| C.i1 S10 (D60 56 rfl) rfl <| C.icmp_ltT S10 (D60 57 rfl) 154 rfl (by decide) <| C.k1 S10 (D60 117 rfl) 0 rfl <| C.istore S10 (D60 60 rfl) 157 rfl #[vr se, vi 1, vi (n32 ix), vi 1, vi 1, vi 0, vi 0, vi (endF cs cp ix), vi 0] rfl <| C.i2 S10 (D60 61 rfl) rfl <| C.if_eqT S10 (D60 62 rfl) 188 rfl (by decide) <| C.i2 S10 (D60 69 rfl) rfl <| C.if_eqT S10 (D60 70 rfl) 226 rfl (by decide) <| C.i2 S10 (D60 77 rfl) rfl <| C.if_eqT S10 (D60 78 rfl) 268 rfl (by decide) <| C.i2 S10 (D60 85 rfl) rfl ?_
    exact C.rN S10 (D60 86 rfl) 0 (by decide) [0] ⟨rfl, rfl, rfl⟩
  · refine C.icmp_ne S5 (D60 109 rfl) 33 29 (by decide) (by decide) rfl (fun hc17 => ?_) fun hc17 => ?_
    · refine C.a1 S5 (D60 110 rfl) rfl rfl <| C.gl S5 (W H 242 rfl) (D60 111 rfl) 0 rfl 0 rfl fun T18 S18 => C.gm S18 (W H 426 rfl) (D60 112 rfl) 0 rfl 4 rfl fun T19 S19 => C.i1 S19 (D60 113 rfl) rfl <| C.iaload S19 (S19.atM 5 rfl) (D60 114 rfl) 42 rfl (by decide) 1 rfl rfl ?_
      exact Ja _ () S19 trivial
    · refine C.i1 S5 (D60 115 rfl) rfl <| C.g S5 (D60 116 rfl) 42 rfl ?_
      exact Ja _ () S5 trivial
theorem stpRN (H : Hy a0 Z cst dce nona sfv) (se pr t b : Addr) (PT PB : Cell → Prop) (cs : List Int32) (cp : Int32) (ix : Nat) (po pn pa pb pcc pd plv : Addr) (kd : Int32) (hT : Tx lch Z t b PT PB cs) (hcp : Cpt cp) (hib : ix ≤ cs.length) (hn3 : cs.length ≤ 3) (hy : endF cs cp ix < 0) (hk : kd = 6 ∨ kd = 7 ∨ kd = 8) :
    Con lch Z consts_1 Y60 prog_35_method_4_code 4 (some .int) (rm 8 0 0 126) #[(.ref se), (.int 1), (.int (-1))] [(se, O6 Z (.ref pr) (.ref nona) (.ref nona) (.ref t) (.int (n32 cs.length)) (.ref nona) (.int 0) (.int 0) (.int (n32 ix)))] [(pr, O5 Z (.ref po) (.ref pn) (.ref pa) (.ref pb) (.ref pcc) (.ref pd) (.ref plv) (.int 1) .null (.int 0) (.int 0) (.int 0)), (po, Ary Z .byte [(.int 1), (.int kd), (.int 21)]), (pn, Ary Z .int [(.int (-1)), (.int 2), (.int (-1))]), (pa, Ary Z .int [(.int cp), (.int ((-1 : Int32) - cp)), (.int 0)]), (pb, Ary Z .int [(.int 0), (.int 1), (.int 0)]), (pcc, Ary Z .int [(.int 0), (.int 1), (.int 0)]), (t, PT), (b, PB)]
      (fun rv L1 M1 => rv = some (.int (-1)) ∧ L1 = [(se, O6 Z (.ref pr) (.ref nona) (.ref nona) (.ref t) (.int (n32 cs.length)) (.ref nona) (.int 0) (.int 0) (.int (n32 ix)))] ∧ M1 = []) := by
  refine Con.ob #[vr se, vi 1, vi (-1), us] (plainFor_of_name pn15) ?_
  intro p e s m below meth c T0 h0 C S0
  refine C.a1 S0 (D59 0 rfl) rfl rfl <| C.gl S0 (W H 242 rfl) (D59 1 rfl) 0 rfl 0 rfl fun T1 S1 => C.gm S1 (W H 296 rfl) (D59 2 rfl) 0 rfl 0 rfl fun T2 S2 => C.i1 S2 (D59 3 rfl) rfl <| C.baload S2 (S2.atM 1 rfl) (D59 4 rfl) 9 rfl (by decide) 1 rfl rfl <| C.tableswitch S2 (D59 5 rfl) (by rcases hk with rfl | rfl | rfl <;> decide) (off := 304) (by rcases hk with rfl | rfl | rfl <;> rfl) (by decide) 313 (by decide) <| C.a1 S2 (D59 26 rfl) rfl rfl <| C.i1 S2 (D59 27 rfl) rfl <| C.xp (y' := Y58) S2 (S2.exa 0 rfl) (W H 421 rfl) (W H 422 rfl) (W H 278 rfl) (W H 279 rfl) (W H 423 rfl) (W H 238 rfl) (W H 424 rfl) (repN H se pr t b PT PB cs cp ix po pn pa pb pcc pd plv kd hT hcp hib hn3 hy hk) (D59 28 rfl) pd31 [(.int 1)] [] [0] (S2.roP (is := [0]) (js := [0, 1, 2, 3, 4, 5, 6, 7]) rfl rfl) ?_
  rintro T3 _ _ _ ⟨rfl, rfl, rfl⟩ hro3 S3
  replace S3 := S3.nc (L' := [(se, O6 Z (.ref pr) (.ref nona) (.ref nona) (.ref t) (.int (n32 cs.length)) (.ref nona) (.int 0) (.int 0) (.int (n32 ix)))]) rfl
  refine C.if_eqT S3 (D59 29 rfl) 333 rfl (by decide) <| C.k1 S3 (D59 39 rfl) (-1) rfl <| C.istoreN S3 (D59 36 rfl) 335 rfl #[vr se, vi 1, vi (-1), vi (-1)] rfl <| C.g S3 (D59 37 rfl) 782 rfl <| C.i1 S3 (D59 24 rfl) rfl ?_
  exact C.rI S3 (D59 25 rfl) [0] ⟨rfl, rfl, rfl⟩
theorem stpE1 (H : Hy a0 Z cst dce nona sfv) (se pr t b : Addr) (PT PB : Cell → Prop) (cs : List Int32) (cp at9 : Int32) (po pn pa pb pcc pd plv : Addr) :
    Con lch Z consts_1 Y60 prog_35_method_4_code 4 (some .int) (rm 0 0 0 0) #[(.ref se), (.int 1), (.int (-1))] [] [(se, O6 Z (.ref pr) (.ref nona) (.ref nona) (.ref t) (.int (n32 cs.length)) (.ref nona) (.int 0) (.int 0) (.int at9)), (pr, O5 Z (.ref po) (.ref pn) (.ref pa) (.ref pb) (.ref pcc) (.ref pd) (.ref plv) (.int 0) .null (.int 0) (.int 0) (.int 0)), (po, Ary Z .byte [(.int 1), (.int 21)])]
      (fun rv L1 M1 => rv = some (.int (-2)) ∧ L1 = [] ∧ M1 = []) := by
  refine Con.ob #[vr se, vi 1, vi (-1), us] (plainFor_of_name pn15) ?_
  intro p e s m below meth c T0 h0 C S0
  refine C.a1 S0 (D59 0 rfl) rfl rfl <| C.gf S0 (W H 242 rfl) (D59 1 rfl) (S0.fldM 0 rfl 0 rfl) 4 rfl fun T1 S1 => C.gm S1 (W H 296 rfl) (D59 2 rfl) 1 rfl 0 rfl fun T2 S2 => C.i1 S2 (D59 3 rfl) rfl <| C.baload S2 (S2.atM 2 rfl) (D59 4 rfl) 9 rfl (by decide) 1 rfl rfl <| C.tableswitch S2 (D59 5 rfl) (by decide) (off := 650) rfl (by decide) 659 (by decide) <| C.i1 S2 (D59 40 rfl) rfl <| C.if_ltT S2 (D59 41 rfl) 671 rfl (by decide) <| C.k2 S2 (D59 42 rfl) (-2) rfl <| C.g S2 (D59 43 rfl) 677 rfl <| C.istoreN S2 (D59 44 rfl) 678 rfl #[vr se, vi 1, vi (-1), vi (-2)] rfl <| C.g S2 (D59 45 rfl) 782 rfl <| C.i1 S2 (D59 24 rfl) rfl ?_
  exact C.rI S2 (D59 25 rfl) [] ⟨rfl, rfl, rfl⟩
theorem stpE2 (H : Hy a0 Z cst dce nona sfv) (se pr t b : Addr) (PT PB : Cell → Prop) (cs : List Int32) (cp kd at9 : Int32) (po pn pa pb pcc pd plv : Addr) :
    Con lch Z consts_1 Y60 prog_35_method_4_code 4 (some .int) (rm 0 0 0 0) #[(.ref se), (.int 2), (.int (-1))] [] [(se, O6 Z (.ref pr) (.ref nona) (.ref nona) (.ref t) (.int (n32 cs.length)) (.ref nona) (.int 0) (.int 0) (.int at9)), (pr, O5 Z (.ref po) (.ref pn) (.ref pa) (.ref pb) (.ref pcc) (.ref pd) (.ref plv) (.int 1) .null (.int 0) (.int 0) (.int 0)), (po, Ary Z .byte [(.int 1), (.int kd), (.int 21)])]
      (fun rv L1 M1 => rv = some (.int (-2)) ∧ L1 = [] ∧ M1 = []) := by
  refine Con.ob #[vr se, vi 2, vi (-1), us] (plainFor_of_name pn15) ?_
  intro p e s m below meth c T0 h0 C S0
  refine C.a1 S0 (D59 0 rfl) rfl rfl <| C.gf S0 (W H 242 rfl) (D59 1 rfl) (S0.fldM 0 rfl 0 rfl) 4 rfl fun T1 S1 => C.gm S1 (W H 296 rfl) (D59 2 rfl) 1 rfl 0 rfl fun T2 S2 => C.i1 S2 (D59 3 rfl) rfl <| C.baload S2 (S2.atM 2 rfl) (D59 4 rfl) 9 rfl (by decide) 2 rfl rfl <| C.tableswitch S2 (D59 5 rfl) (by decide) (off := 650) rfl (by decide) 659 (by decide) <| C.i1 S2 (D59 40 rfl) rfl <| C.if_ltT S2 (D59 41 rfl) 671 rfl (by decide) <| C.k2 S2 (D59 42 rfl) (-2) rfl <| C.g S2 (D59 43 rfl) 677 rfl <| C.istoreN S2 (D59 44 rfl) 678 rfl #[vr se, vi 2, vi (-1), vi (-2)] rfl <| C.g S2 (D59 45 rfl) 782 rfl <| C.i1 S2 (D59 24 rfl) rfl ?_
  exact C.rI S2 (D59 25 rfl) [] ⟨rfl, rfl, rfl⟩
theorem runPY (H : Hy a0 Z cst dce nona sfv) (se pr t b : Addr) (PT PB : Cell → Prop) (cs : List Int32) (cp : Int32) (ix : Nat) (po pn pa pb pcc pd plv : Addr) (at8 : Int32) (hT : Tx lch Z t b PT PB cs) (hcp : Cpt cp) (hib : ix ≤ cs.length) (hn3 : cs.length ≤ 3) (hy : ¬ endF cs cp ix < 0) :
    Con lch Z consts_1 Y62 prog_35_method_3_code 7 (some .int) (rm 9 0 0 141) #[(.ref se), (.int 0), (.int (n32 ix)), (.int (-1))] [(se, O6 Z (.ref pr) (.ref nona) (.ref nona) (.ref t) (.int (n32 cs.length)) (.ref nona) (.int 0) (.int 0) (.int at8))] [(t, PT), (b, PB), (pr, O5 Z (.ref po) (.ref pn) (.ref pa) (.ref pb) (.ref pcc) (.ref pd) (.ref plv) (.int 0) .null (.int 0) (.int 0) (.int 0)), (po, Ary Z .byte [(.int 1), (.int 21)]), (pn, Ary Z .int [(.int 1), (.int (-1))]), (pa, Ary Z .int [(.int cp), (.int 0)]), (pb, Ary Z .int [(.int 0), (.int 0)]), (pcc, Ary Z .int [(.int 0), (.int 0)])]
      (fun rv L1 M1 => rv = some (.int (endF cs cp ix)) ∧ L1 = [(se, O6 Z (.ref pr) (.ref nona) (.ref nona) (.ref t) (.int (n32 cs.length)) (.ref nona) (.int 0) (.int 0) (.int (endF cs cp ix)))] ∧ M1 = []) := by
  refine Con.ob #[vr se, vi 0, vi (n32 ix), vi (-1), us, us, us] (plainFor_of_name pn15) ?_
  intro p e s m below meth c T0 h0 C S0
  refine C.a1 S0 (D61 0 rfl) rfl rfl <| C.gl S0 (W H 286 rfl) (D61 1 rfl) 0 rfl 6 rfl fun T1 S1 => C.istore S1 (D61 2 rfl) 6 rfl #[vr se, vi 0, vi (n32 ix), vi (-1), vi 0, us, us] rfl <| C.a1 S1 (D61 3 rfl) rfl rfl <| C.gl S1 (W H 288 rfl) (D61 4 rfl) 0 rfl 7 rfl fun T2 S2 => C.istore S2 (D61 5 rfl) 12 rfl #[vr se, vi 0, vi (n32 ix), vi (-1), vi 0, vi 0, us] rfl <| C.k1 S2 (D61 6 rfl) (-1) rfl <| C.istore S2 (D61 7 rfl) 15 rfl #[vr se, vi 0, vi (n32 ix), vi (-1), vi 0, vi 0, vi (-1)] rfl <| C.a1 S2 (D61 8 rfl) rfl rfl <| C.i1 S2 (D61 9 rfl) rfl <| C.putfield S2 (host := "") (Or.inl (W H 290 rfl)) Via.refl (D61 10 rfl) 0 rfl 8 rfl (Or.inl (W H 291 rfl)) (W H 237 rfl) (ty := .int) (by decide) rfl rfl 20 rfl fun T3 S3 => C.i1 S3 (D61 11 rfl) rfl <| C.if_ltF S3 (D61 12 rfl) 24 rfl (by decide) <| C.a1 S3 (D61 13 rfl) rfl rfl <| C.i1 S3 (D61 14 rfl) rfl <| C.i1 S3 (D61 15 rfl) rfl <| C.xp (y' := Y58) S3 (S3.exa 0 rfl) (W H 292 rfl) (W H 293 rfl) (W H 278 rfl) (W H 279 rfl) (W H 294 rfl) (W H 238 rfl) (W H 295 rfl) (stpLY H se pr t b PT PB cs cp ix po pn pa pb pcc pd plv hT hcp hib hn3 hy) (D61 16 rfl) pd23 [(.int 0), (.int (-1))] [] [0] (S3.roP (is := [0]) (js := [2, 3, 4, 5, 6, 7, 0, 1]) rfl rfl) ?_
  rintro T5 _ _ _ ⟨rfl, rfl, rfl⟩ hro5 S5
  replace S5 := S5.nc (L' := [(se, O6 Z (.ref pr) (.ref nona) (.ref nona) (.ref t) (.int (n32 cs.length)) (.ref nona) (.int 0) (.int 0) (.int (endF cs cp ix)))]) rfl
  refine C.istoreN S5 (D61 17 rfl) 31 rfl #[vr se, vi 1, vi (n32 ix), vi (-1), vi 0, vi 0, vi (-1)] rfl <| C.i1 S5 (D61 18 rfl) rfl <| C.k2 S5 (D61 19 rfl) (-2) rfl <| C.icmp_neT S5 (D61 20 rfl) 52 rfl (by decide) <| C.i1 S5 (D61 21 rfl) rfl <| C.k1 S5 (D61 22 rfl) (-1) rfl <| C.icmp_neT S5 (D61 23 rfl) 20 rfl (by decide) <| C.i1 S5 (D61 11 rfl) rfl <| C.if_ltF S5 (D61 12 rfl) 24 rfl (by decide) <| C.a1 S5 (D61 13 rfl) rfl rfl <| C.i1 S5 (D61 14 rfl) rfl <| C.i1 S5 (D61 15 rfl) rfl <| C.xp (y' := Y58) S5 (S5.exa 0 rfl) (W H 292 rfl) (W H 293 rfl) (W H 278 rfl) (W H 279 rfl) (W H 294 rfl) (W H 238 rfl) (W H 295 rfl) (stpE1 H se pr t b PT PB cs cp (endF cs cp ix) po pn pa pb pcc pd plv) (D61 16 rfl) pd23 [(.int 1), (.int (-1))] [] [] (rlN (S5.at 0 rfl) (rlN (S5.atM 2 rfl) (rlN (S5.atM 3 rfl) rl0))) ?_
  rintro T9 _ _ _ ⟨rfl, rfl, rfl⟩ hro9 S9
  replace S9 := S9.n0
  refine C.istoreN S9 (D61 17 rfl) 31 rfl #[vr se, vi (-2), vi (n32 ix), vi (-1), vi 0, vi 0, vi (-1)] rfl <| C.i1 S9 (D61 18 rfl) rfl <| C.k2 S9 (D61 19 rfl) (-2) rfl <| C.icmp_neF S9 (D61 20 rfl) 37 rfl (by decide) <| C.a1 S9 (D61 24 rfl) rfl rfl <| C.i2 S9 (D61 25 rfl) rfl <| C.putfield S9 (host := "") (Or.inl (W H 286 rfl)) Via.refl (D61 26 rfl) 0 rfl 6 rfl (Or.inl (W H 287 rfl)) (W H 237 rfl) (ty := .int) (by decide) rfl rfl 43 rfl fun T11 S11 => C.a1 S11 (D61 27 rfl) rfl rfl <| C.gl S11 (W H 290 rfl) (D61 28 rfl) 0 rfl 8 rfl fun T12 S12 => C.istore S12 (D61 29 rfl) 49 rfl #[vr se, vi (-2), vi (n32 ix), vi (-1), vi 0, vi 0, vi (endF cs cp ix)] rfl <| C.g S12 (D61 30 rfl) 20 rfl <| C.i1 S12 (D61 11 rfl) rfl <| C.if_ltT S12 (D61 12 rfl) 67 rfl (by decide) <| C.i2 S12 (D61 31 rfl) rfl ?_
  refine C.if_ge S12 (D61 32 rfl) 78 72 (by decide) (by decide) rfl (fun hc14 => ?_) fun hc14 => absurd hc14 hy
  refine C.i2 S12 (D61 33 rfl) rfl ?_
  exact C.rI S12 (D61 34 rfl) [0] ⟨rfl, rfl, rfl⟩
theorem runRY (H : Hy a0 Z cst dce nona sfv) (se pr t b : Addr) (PT PB : Cell → Prop) (cs : List Int32) (cp : Int32) (ix : Nat) (po pn pa pb pcc pd plv : Addr) (kd at8 : Int32) (hT : Tx lch Z t b PT PB cs) (hcp : Cpt cp) (hib : ix ≤ cs.length) (hn3 : cs.length ≤ 3) (hy : ¬ endF cs cp ix < 0) (hk : kd = 6 ∨ kd = 7 ∨ kd = 8) :
    Con lch Z consts_1 Y62 prog_35_method_3_code 7 (some .int) (rm 9 0 0 141) #[(.ref se), (.int 1), (.int (n32 ix)), (.int (-1))] [(se, O6 Z (.ref pr) (.ref nona) (.ref nona) (.ref t) (.int (n32 cs.length)) (.ref nona) (.int 0) (.int 0) (.int at8))] [(t, PT), (b, PB), (pr, O5 Z (.ref po) (.ref pn) (.ref pa) (.ref pb) (.ref pcc) (.ref pd) (.ref plv) (.int 1) .null (.int 0) (.int 0) (.int 0)), (po, Ary Z .byte [(.int 1), (.int kd), (.int 21)]), (pn, Ary Z .int [(.int (-1)), (.int 2), (.int (-1))]), (pa, Ary Z .int [(.int cp), (.int ((-1 : Int32) - cp)), (.int 0)]), (pb, Ary Z .int [(.int 0), (.int 1), (.int 0)]), (pcc, Ary Z .int [(.int 0), (.int 1), (.int 0)])]
      (fun rv L1 M1 => rv = some (.int (endF cs cp ix)) ∧ L1 = [(se, O6 Z (.ref pr) (.ref nona) (.ref nona) (.ref t) (.int (n32 cs.length)) (.ref nona) (.int 0) (.int 0) (.int (endF cs cp ix)))] ∧ M1 = []) := by
  refine Con.ob #[vr se, vi 1, vi (n32 ix), vi (-1), us, us, us] (plainFor_of_name pn15) ?_
  intro p e s m below meth c T0 h0 C S0
  refine C.a1 S0 (D61 0 rfl) rfl rfl <| C.gl S0 (W H 286 rfl) (D61 1 rfl) 0 rfl 6 rfl fun T1 S1 => C.istore S1 (D61 2 rfl) 6 rfl #[vr se, vi 1, vi (n32 ix), vi (-1), vi 0, us, us] rfl <| C.a1 S1 (D61 3 rfl) rfl rfl <| C.gl S1 (W H 288 rfl) (D61 4 rfl) 0 rfl 7 rfl fun T2 S2 => C.istore S2 (D61 5 rfl) 12 rfl #[vr se, vi 1, vi (n32 ix), vi (-1), vi 0, vi 0, us] rfl <| C.k1 S2 (D61 6 rfl) (-1) rfl <| C.istore S2 (D61 7 rfl) 15 rfl #[vr se, vi 1, vi (n32 ix), vi (-1), vi 0, vi 0, vi (-1)] rfl <| C.a1 S2 (D61 8 rfl) rfl rfl <| C.i1 S2 (D61 9 rfl) rfl <| C.putfield S2 (host := "") (Or.inl (W H 290 rfl)) Via.refl (D61 10 rfl) 0 rfl 8 rfl (Or.inl (W H 291 rfl)) (W H 237 rfl) (ty := .int) (by decide) rfl rfl 20 rfl fun T3 S3 => C.i1 S3 (D61 11 rfl) rfl <| C.if_ltF S3 (D61 12 rfl) 24 rfl (by decide) <| C.a1 S3 (D61 13 rfl) rfl rfl <| C.i1 S3 (D61 14 rfl) rfl <| C.i1 S3 (D61 15 rfl) rfl <| C.xp (y' := Y58) S3 (S3.exa 0 rfl) (W H 292 rfl) (W H 293 rfl) (W H 278 rfl) (W H 279 rfl) (W H 294 rfl) (W H 238 rfl) (W H 295 rfl) (stpRY H se pr t b PT PB cs cp ix po pn pa pb pcc pd plv kd hT hcp hib hn3 hy hk) (D61 16 rfl) pd23 [(.int 1), (.int (-1))] [] [0] (S3.roP (is := [0]) (js := [2, 3, 4, 5, 6, 7, 0, 1]) rfl rfl) ?_
  rintro T5 _ _ _ ⟨rfl, rfl, rfl⟩ hro5 S5
  replace S5 := S5.nc (L' := [(se, O6 Z (.ref pr) (.ref nona) (.ref nona) (.ref t) (.int (n32 cs.length)) (.ref nona) (.int 0) (.int 0) (.int (endF cs cp ix)))]) rfl
  refine C.istoreN S5 (D61 17 rfl) 31 rfl #[vr se, vi 2, vi (n32 ix), vi (-1), vi 0, vi 0, vi (-1)] rfl <| C.i1 S5 (D61 18 rfl) rfl <| C.k2 S5 (D61 19 rfl) (-2) rfl <| C.icmp_neT S5 (D61 20 rfl) 52 rfl (by decide) <| C.i1 S5 (D61 21 rfl) rfl <| C.k1 S5 (D61 22 rfl) (-1) rfl <| C.icmp_neT S5 (D61 23 rfl) 20 rfl (by decide) <| C.i1 S5 (D61 11 rfl) rfl <| C.if_ltF S5 (D61 12 rfl) 24 rfl (by decide) <| C.a1 S5 (D61 13 rfl) rfl rfl <| C.i1 S5 (D61 14 rfl) rfl <| C.i1 S5 (D61 15 rfl) rfl <| C.xp (y' := Y58) S5 (S5.exa 0 rfl) (W H 292 rfl) (W H 293 rfl) (W H 278 rfl) (W H 279 rfl) (W H 294 rfl) (W H 238 rfl) (W H 295 rfl) (stpE2 H se pr t b PT PB cs cp kd (endF cs cp ix) po pn pa pb pcc pd plv) (D61 16 rfl) pd23 [(.int 2), (.int (-1))] [] [] (rlN (S5.at 0 rfl) (rlN (S5.atM 2 rfl) (rlN (S5.atM 3 rfl) rl0))) ?_
  rintro T9 _ _ _ ⟨rfl, rfl, rfl⟩ hro9 S9
  replace S9 := S9.n0
  refine C.istoreN S9 (D61 17 rfl) 31 rfl #[vr se, vi (-2), vi (n32 ix), vi (-1), vi 0, vi 0, vi (-1)] rfl <| C.i1 S9 (D61 18 rfl) rfl <| C.k2 S9 (D61 19 rfl) (-2) rfl <| C.icmp_neF S9 (D61 20 rfl) 37 rfl (by decide) <| C.a1 S9 (D61 24 rfl) rfl rfl <| C.i2 S9 (D61 25 rfl) rfl <| C.putfield S9 (host := "") (Or.inl (W H 286 rfl)) Via.refl (D61 26 rfl) 0 rfl 6 rfl (Or.inl (W H 287 rfl)) (W H 237 rfl) (ty := .int) (by decide) rfl rfl 43 rfl fun T11 S11 => C.a1 S11 (D61 27 rfl) rfl rfl <| C.gl S11 (W H 290 rfl) (D61 28 rfl) 0 rfl 8 rfl fun T12 S12 => C.istore S12 (D61 29 rfl) 49 rfl #[vr se, vi (-2), vi (n32 ix), vi (-1), vi 0, vi 0, vi (endF cs cp ix)] rfl <| C.g S12 (D61 30 rfl) 20 rfl <| C.i1 S12 (D61 11 rfl) rfl <| C.if_ltT S12 (D61 12 rfl) 67 rfl (by decide) <| C.i2 S12 (D61 31 rfl) rfl ?_
  refine C.if_ge S12 (D61 32 rfl) 78 72 (by decide) (by decide) rfl (fun hc14 => ?_) fun hc14 => absurd hc14 hy
  refine C.i2 S12 (D61 33 rfl) rfl ?_
  exact C.rI S12 (D61 34 rfl) [0] ⟨rfl, rfl, rfl⟩
theorem pd33 : parseMethodDescriptor "(I)V" = some ⟨[.int], none⟩ := by decide +kernel
theorem runPN (H : Hy a0 Z cst dce nona sfv) (se pr t b : Addr) (PT PB : Cell → Prop) (cs : List Int32) (cp : Int32) (ix : Nat) (po pn pa pb pcc pd plv : Addr) (at8 : Int32) (hT : Tx lch Z t b PT PB cs) (hcp : Cpt cp) (hib : ix ≤ cs.length) (hn3 : cs.length ≤ 3) (hy : endF cs cp ix < 0) :
    Con lch Z consts_1 Y62 prog_35_method_3_code 7 (some .int) (rm 9 0 0 141) #[(.ref se), (.int 0), (.int (n32 ix)), (.int (-1))] [(se, O6 Z (.ref pr) (.ref nona) (.ref nona) (.ref t) (.int (n32 cs.length)) (.ref nona) (.int 0) (.int 0) (.int at8))] [(t, PT), (b, PB), (pr, O5 Z (.ref po) (.ref pn) (.ref pa) (.ref pb) (.ref pcc) (.ref pd) (.ref plv) (.int 0) .null (.int 0) (.int 0) (.int 0)), (po, Ary Z .byte [(.int 1), (.int 21)]), (pn, Ary Z .int [(.int 1), (.int (-1))]), (pa, Ary Z .int [(.int cp), (.int 0)]), (pb, Ary Z .int [(.int 0), (.int 0)]), (pcc, Ary Z .int [(.int 0), (.int 0)])]
      (fun rv L1 M1 => rv = some (.int (-1)) ∧ L1 = [(se, O6 Z (.ref pr) (.ref nona) (.ref nona) (.ref t) (.int (n32 cs.length)) (.ref nona) (.int 0) (.int 0) (.int (n32 ix)))] ∧ M1 = []) := by
  refine Con.ob #[vr se, vi 0, vi (n32 ix), vi (-1), us, us, us] (plainFor_of_name pn15) ?_
  intro p e s m below meth c T0 h0 C S0
  refine C.a1 S0 (D61 0 rfl) rfl rfl <| C.gl S0 (W H 286 rfl) (D61 1 rfl) 0 rfl 6 rfl fun T1 S1 => C.istore S1 (D61 2 rfl) 6 rfl #[vr se, vi 0, vi (n32 ix), vi (-1), vi 0, us, us] rfl <| C.a1 S1 (D61 3 rfl) rfl rfl <| C.gl S1 (W H 288 rfl) (D61 4 rfl) 0 rfl 7 rfl fun T2 S2 => C.istore S2 (D61 5 rfl) 12 rfl #[vr se, vi 0, vi (n32 ix), vi (-1), vi 0, vi 0, us] rfl <| C.k1 S2 (D61 6 rfl) (-1) rfl <| C.istore S2 (D61 7 rfl) 15 rfl #[vr se, vi 0, vi (n32 ix), vi (-1), vi 0, vi 0, vi (-1)] rfl <| C.a1 S2 (D61 8 rfl) rfl rfl <| C.i1 S2 (D61 9 rfl) rfl <| C.putfield S2 (host := "") (Or.inl (W H 290 rfl)) Via.refl (D61 10 rfl) 0 rfl 8 rfl (Or.inl (W H 291 rfl)) (W H 237 rfl) (ty := .int) (by decide) rfl rfl 20 rfl fun T3 S3 => C.i1 S3 (D61 11 rfl) rfl <| C.if_ltF S3 (D61 12 rfl) 24 rfl (by decide) <| C.a1 S3 (D61 13 rfl) rfl rfl <| C.i1 S3 (D61 14 rfl) rfl <| C.i1 S3 (D61 15 rfl) rfl <| C.xp (y' := Y58) S3 (S3.exa 0 rfl) (W H 292 rfl) (W H 293 rfl) (W H 278 rfl) (W H 279 rfl) (W H 294 rfl) (W H 238 rfl) (W H 295 rfl) (stpLN H se pr t b PT PB cs cp ix po pn pa pb pcc pd plv hT hcp hib hn3 hy) (D61 16 rfl) pd23 [(.int 0), (.int (-1))] [] [0] (S3.roP (is := [0]) (js := [2, 3, 4, 5, 6, 7, 0, 1]) rfl rfl) ?_
  rintro T5 _ _ _ ⟨rfl, rfl, rfl⟩ hro5 S5
  replace S5 := S5.nc (L' := [(se, O6 Z (.ref pr) (.ref nona) (.ref nona) (.ref t) (.int (n32 cs.length)) (.ref nona) (.int 0) (.int 0) (.int (n32 ix)))]) rfl
  refine C.istoreN S5 (D61 17 rfl) 31 rfl #[vr se, vi (-1), vi (n32 ix), vi (-1), vi 0, vi 0, vi (-1)] rfl <| C.i1 S5 (D61 18 rfl) rfl <| C.k2 S5 (D61 19 rfl) (-2) rfl <| C.icmp_neT S5 (D61 20 rfl) 52 rfl (by decide) <| C.i1 S5 (D61 21 rfl) rfl <| C.k1 S5 (D61 22 rfl) (-1) rfl <| C.icmp_neF S5 (D61 23 rfl) 57 rfl (by decide) <| C.a1 S5 (D61 35 rfl) rfl rfl <| C.i2 S5 (D61 36 rfl) rfl <| C.xp (y' := Y58) S5 (S5.exa 0 rfl) (W H 306 rfl) (W H 307 rfl) (W H 278 rfl) (W H 279 rfl) (W H 308 rfl) (W H 238 rfl) (W H 309 rfl) (bckC H se pr t b PT PB cs (n32 ix)) (D61 37 rfl) pd0 [(.int 0)] [] [] (rlN (S5.at 0 rfl) rl0) ?_
  rintro T8 _ _ _ ⟨rfl, rfl, rfl⟩ hro8 S8
  replace S8 := S8.n0
  refine C.istoreN S8 (D61 38 rfl) 64 rfl #[vr se, vi (-1), vi (n32 ix), vi (-1), vi 0, vi 0, vi (-1)] rfl <| C.g S8 (D61 39 rfl) 20 rfl <| C.i1 S8 (D61 11 rfl) rfl <| C.if_ltT S8 (D61 12 rfl) 67 rfl (by decide) <| C.i2 S8 (D61 31 rfl) rfl <| C.if_geF S8 (D61 32 rfl) 72 rfl (by decide) <| C.a1 S8 (D61 40 rfl) rfl rfl <| C.i2 S8 (D61 41 rfl) rfl <| C.xp (y' := Y58) S8 (S8.exa 0 rfl) (W H 310 rfl) (W H 311 rfl) (W H 278 rfl) (W H 279 rfl) (W H 312 rfl) (W H 238 rfl) (W H 313 rfl) (undC H se pr t b PT PB cs (n32 ix)) (D61 42 rfl) pd33 [(.int 0)] [] [] (rlN (S8.at 0 rfl) rl0) ?_
  rintro T11 _ _ _ ⟨rfl, rfl, rfl⟩ hro11 S11
  replace S11 := S11.n0
  refine C.i2 S11 (D61 33 rfl) rfl ?_
  exact C.rI S11 (D61 34 rfl) [0] ⟨rfl, rfl, rfl⟩
theorem runRN (H : Hy a0 Z cst dce nona sfv) (se pr t b : Addr) (PT PB : Cell → Prop) (cs : List Int32) (cp : Int32) (ix : Nat) (po pn pa pb pcc pd plv : Addr) (kd at8 : Int32) (hT : Tx lch Z t b PT PB cs) (hcp : Cpt cp) (hib : ix ≤ cs.length) (hn3 : cs.length ≤ 3) (hy : endF cs cp ix < 0) (hk : kd = 6 ∨ kd = 7 ∨ kd = 8) :
    Con lch Z consts_1 Y62 prog_35_method_3_code 7 (some .int) (rm 9 0 0 141) #[(.ref se), (.int 1), (.int (n32 ix)), (.int (-1))] [(se, O6 Z (.ref pr) (.ref nona) (.ref nona) (.ref t) (.int (n32 cs.length)) (.ref nona) (.int 0) (.int 0) (.int at8))] [(t, PT), (b, PB), (pr, O5 Z (.ref po) (.ref pn) (.ref pa) (.ref pb) (.ref pcc) (.ref pd) (.ref plv) (.int 1) .null (.int 0) (.int 0) (.int 0)), (po, Ary Z .byte [(.int 1), (.int kd), (.int 21)]), (pn, Ary Z .int [(.int (-1)), (.int 2), (.int (-1))]), (pa, Ary Z .int [(.int cp), (.int ((-1 : Int32) - cp)), (.int 0)]), (pb, Ary Z .int [(.int 0), (.int 1), (.int 0)]), (pcc, Ary Z .int [(.int 0), (.int 1), (.int 0)])]
      (fun rv L1 M1 => rv = some (.int (-1)) ∧ L1 = [(se, O6 Z (.ref pr) (.ref nona) (.ref nona) (.ref t) (.int (n32 cs.length)) (.ref nona) (.int 0) (.int 0) (.int (n32 ix)))] ∧ M1 = []) := by
  refine Con.ob #[vr se, vi 1, vi (n32 ix), vi (-1), us, us, us] (plainFor_of_name pn15) ?_
  intro p e s m below meth c T0 h0 C S0
  refine C.a1 S0 (D61 0 rfl) rfl rfl <| C.gl S0 (W H 286 rfl) (D61 1 rfl) 0 rfl 6 rfl fun T1 S1 => C.istore S1 (D61 2 rfl) 6 rfl #[vr se, vi 1, vi (n32 ix), vi (-1), vi 0, us, us] rfl <| C.a1 S1 (D61 3 rfl) rfl rfl <| C.gl S1 (W H 288 rfl) (D61 4 rfl) 0 rfl 7 rfl fun T2 S2 => C.istore S2 (D61 5 rfl) 12 rfl #[vr se, vi 1, vi (n32 ix), vi (-1), vi 0, vi 0, us] rfl <| C.k1 S2 (D61 6 rfl) (-1) rfl <| C.istore S2 (D61 7 rfl) 15 rfl #[vr se, vi 1, vi (n32 ix), vi (-1), vi 0, vi 0, vi (-1)] rfl <| C.a1 S2 (D61 8 rfl) rfl rfl <| C.i1 S2 (D61 9 rfl) rfl <| C.putfield S2 (host := "") (Or.inl (W H 290 rfl)) Via.refl (D61 10 rfl) 0 rfl 8 rfl (Or.inl (W H 291 rfl)) (W H 237 rfl) (ty := .int) (by decide) rfl rfl 20 rfl fun T3 S3 => C.i1 S3 (D61 11 rfl) rfl <| C.if_ltF S3 (D61 12 rfl) 24 rfl (by decide) <| C.a1 S3 (D61 13 rfl) rfl rfl <| C.i1 S3 (D61 14 rfl) rfl <| C.i1 S3 (D61 15 rfl) rfl <| C.xp (y' := Y58) S3 (S3.exa 0 rfl) (W H 292 rfl) (W H 293 rfl) (W H 278 rfl) (W H 279 rfl) (W H 294 rfl) (W H 238 rfl) (W H 295 rfl) (stpRN H se pr t b PT PB cs cp ix po pn pa pb pcc pd plv kd hT hcp hib hn3 hy hk) (D61 16 rfl) pd23 [(.int 1), (.int (-1))] [] [0] (S3.roP (is := [0]) (js := [2, 3, 4, 5, 6, 7, 0, 1]) rfl rfl) ?_
  rintro T5 _ _ _ ⟨rfl, rfl, rfl⟩ hro5 S5
  replace S5 := S5.nc (L' := [(se, O6 Z (.ref pr) (.ref nona) (.ref nona) (.ref t) (.int (n32 cs.length)) (.ref nona) (.int 0) (.int 0) (.int (n32 ix)))]) rfl
  refine C.istoreN S5 (D61 17 rfl) 31 rfl #[vr se, vi (-1), vi (n32 ix), vi (-1), vi 0, vi 0, vi (-1)] rfl <| C.i1 S5 (D61 18 rfl) rfl <| C.k2 S5 (D61 19 rfl) (-2) rfl <| C.icmp_neT S5 (D61 20 rfl) 52 rfl (by decide) <| C.i1 S5 (D61 21 rfl) rfl <| C.k1 S5 (D61 22 rfl) (-1) rfl <| C.icmp_neF S5 (D61 23 rfl) 57 rfl (by decide) <| C.a1 S5 (D61 35 rfl) rfl rfl <| C.i2 S5 (D61 36 rfl) rfl <| C.xp (y' := Y58) S5 (S5.exa 0 rfl) (W H 306 rfl) (W H 307 rfl) (W H 278 rfl) (W H 279 rfl) (W H 308 rfl) (W H 238 rfl) (W H 309 rfl) (bckC H se pr t b PT PB cs (n32 ix)) (D61 37 rfl) pd0 [(.int 0)] [] [] (rlN (S5.at 0 rfl) rl0) ?_
  rintro T8 _ _ _ ⟨rfl, rfl, rfl⟩ hro8 S8
  replace S8 := S8.n0
  refine C.istoreN S8 (D61 38 rfl) 64 rfl #[vr se, vi (-1), vi (n32 ix), vi (-1), vi 0, vi 0, vi (-1)] rfl <| C.g S8 (D61 39 rfl) 20 rfl <| C.i1 S8 (D61 11 rfl) rfl <| C.if_ltT S8 (D61 12 rfl) 67 rfl (by decide) <| C.i2 S8 (D61 31 rfl) rfl <| C.if_geF S8 (D61 32 rfl) 72 rfl (by decide) <| C.a1 S8 (D61 40 rfl) rfl rfl <| C.i2 S8 (D61 41 rfl) rfl <| C.xp (y' := Y58) S8 (S8.exa 0 rfl) (W H 310 rfl) (W H 311 rfl) (W H 278 rfl) (W H 279 rfl) (W H 312 rfl) (W H 238 rfl) (W H 313 rfl) (undC H se pr t b PT PB cs (n32 ix)) (D61 42 rfl) pd33 [(.int 0)] [] [] (rlN (S8.at 0 rfl) rl0) ?_
  rintro T11 _ _ _ ⟨rfl, rfl, rfl⟩ hro11 S11
  replace S11 := S11.n0
  refine C.i2 S11 (D61 33 rfl) rfl ?_
  exact C.rI S11 (D61 34 rfl) [0] ⟨rfl, rfl, rfl⟩
theorem rngC (H : Hy a0 Z cst dce nona sfv) :
    Con lch Z consts_1 Y63 jdk_65_method_30_code 3 none (rm 0 0 0 0) #[(.int 0), (.int 0), (.int 0)] [] []
      (fun rv L1 M1 => rv = none ∧ L1 = [] ∧ M1 = []) := by
  refine Con.ob #[vi 0, vi 0, vi 0] (plainFor_of_name pn13) ?_
  intro p e s m below meth c T0 h0 C S0
  refine C.i1 S0 (D62 0 rfl) rfl <| C.i1 S0 (D62 1 rfl) rfl <| C.icmp_leT S0 (D62 2 rfl) 46 rfl (by decide) <| C.i1 S0 (D62 3 rfl) rfl <| C.if_geT S0 (D62 4 rfl) 59 rfl (by decide) <| C.i1 S0 (D62 5 rfl) rfl <| C.i1 S0 (D62 6 rfl) rfl <| C.icmp_leT S0 (D62 7 rfl) 73 rfl (by decide) ?_
  exact C.rV S0 (D62 8 rfl) [] ⟨rfl, rfl, rfl⟩
theorem pd34 : parseMethodDescriptor "(III)V" = some ⟨[.int, .int, .int], none⟩ := by decide +kernel
theorem filC (H : Hy a0 Z cst dce nona sfv) :
    Con lch Z consts_1 Y64 jdk_65_method_104_code 5 none (rm 1 0 0 14) #[(.ref nona), (.int 0), (.int 0), (.int (-1))] [] []
      (fun rv L1 M1 => rv = none ∧ L1 = [] ∧ M1 = []) := by
  refine Con.ob #[vr nona, vi 0, vi 0, vi (-1), us] (plainFor_of_name pn13) ?_
  intro p e s m below meth c T0 h0 C S0
  refine C.a1 S0 (D63 0 rfl) rfl rfl <| C.arraylength S0 (S0.oldA H.2.2.2.aNO) (D63 1 rfl) 2 rfl (0 : Int32) rfl <| C.i1 S0 (D63 2 rfl) rfl <| C.i1 S0 (D63 3 rfl) rfl <| C.xs S0 (W H 273 rfl) (W H 274 rfl) (W H 171 rfl) (W H 275 rfl) (rngC H) (D63 4 rfl) pd34 [(.int 0), (.int 0), (.int 0)] [] [] rl0 ?_
  rintro T1 _ _ _ ⟨rfl, rfl, rfl⟩ hro1 S1
  replace S1 := S1.n0
  refine C.i1 S1 (D63 5 rfl) rfl <| C.istore S1 (D63 6 rfl) 10 rfl #[vr nona, vi 0, vi 0, vi (-1), vi 0] rfl <| C.i2 S1 (D63 7 rfl) rfl <| C.i1 S1 (D63 8 rfl) rfl <| C.icmp_geT S1 (D63 9 rfl) 27 rfl (by decide) ?_
  exact C.rV S1 (D63 10 rfl) [] ⟨rfl, rfl, rfl⟩
theorem pd35 : parseMethodDescriptor "()I" = some ⟨[], some .int⟩ := by decide +kernel
theorem pd36 : parseMethodDescriptor "([IIII)V" = some ⟨[(.array .int), .int, .int, .int], none⟩ := by decide +kernel
theorem srInit (H : Hy a0 Z cst dce nona sfv) (se pr t b : Addr) (PT PB : Cell → Prop) (cs : List Int32) (po pn pa pb pcc pd plv : Addr) (en : Int32) (hT : Tx lch Z t b PT PB cs) :
    Con lch Z consts_1 Y65 prog_35_method_1_code 3 none (rm 3 0 0 43) #[(.ref se), (.ref pr), (.ref t)] [(se, O6 Z .null .null .null .null (.int 0) .null (.int 0) (.int 0) (.int 0))] [(pr, O5 Z (.ref po) (.ref pn) (.ref pa) (.ref pb) (.ref pcc) (.ref pd) (.ref plv) (.int en) .null (.int 0) (.int 0) (.int 0)), (t, PT), (b, PB)]
      (fun rv L1 M1 => rv = none ∧ L1 = [(se, O6 Z (.ref pr) (.ref nona) (.ref nona) (.ref t) (.int (n32 cs.length)) (.ref nona) (.int 0) (.int 0) (.int 0))] ∧ M1 = []) := by
  refine Con.ob #[vr se, vr pr, vr t] (plainFor_of_name pn15) ?_
  intro p e s m below meth c T0 h0 C S0
  refine C.a1 S0 (D64 0 rfl) rfl rfl <| C.a1 S0 (D64 1 rfl) rfl rfl <| C.putfield S0 (host := "") (Or.inl (W H 242 rfl)) Via.refl (D64 2 rfl) 0 rfl 0 rfl (Or.inr ⟨(W H 243 rfl), rfl, rfl⟩) (W H 237 rfl) (ty := (.object "com/example/honest_errors/honesterrors/jsonschema/RegexProgram")) (by decide) rfl rfl 5 rfl fun T1 S1 => C.a1 S1 (D64 3 rfl) rfl rfl <| C.objInit S1 (W H 244 rfl) (W H 20 rfl) (W H 21 rfl) (D64 4 rfl) 9 rfl rfl (leD rfl) (leD rfl) fun T2 S2 => C.a1 S2 (D64 5 rfl) rfl rfl <| C.getstatic S2 (Or.inr (W H 245 rfl)) Via.refl (D64 6 rfl) H.2.2.2.hNO 13 rfl fun T3 S3 => C.putfield S3 (host := "") (Or.inl (W H 247 rfl)) Via.refl (D64 7 rfl) 0 rfl 1 rfl (Or.inl (W H 248 rfl)) (W H 237 rfl) (ty := (.array .int)) (by decide) rfl rfl 16 rfl fun T4 S4 => C.a1 S4 (D64 8 rfl) rfl rfl <| C.getstatic S4 (Or.inr (W H 245 rfl)) Via.refl (D64 9 rfl) H.2.2.2.hNO 20 rfl fun T5 S5 => C.putfield S5 (host := "") (Or.inl (W H 249 rfl)) Via.refl (D64 10 rfl) 0 rfl 2 rfl (Or.inl (W H 250 rfl)) (W H 237 rfl) (ty := (.array .int)) (by decide) rfl rfl 23 rfl fun T6 S6 => ?_
  refine C.a1 S6 (D64 11 rfl) rfl rfl <| C.a1 S6 (D64 12 rfl) rfl rfl <| C.putfield S6 (host := "") (Or.inl (W H 251 rfl)) Via.refl (D64 13 rfl) 0 rfl 3 rfl (Or.inr ⟨(W H 252 rfl), rfl, rfl⟩) (W H 237 rfl) (ty := (.object "java/lang/String")) (by decide) rfl rfl 28 rfl fun T7 S7 => C.a1 S7 (D64 14 rfl) rfl rfl <| C.a1 S7 (D64 15 rfl) rfl rfl <| C.xv S7 (hT.1 _ (S7.atM 1 rfl)) (W H 253 rfl) (W H 254 rfl) (Or.inl ⟨_, (W H 256 rfl)⟩) (W H 256 rfl) (W H 255 rfl) (W H 11 rfl) (W H 257 rfl) (txLen H t b PT PB cs hT) (D64 16 rfl) pd35 [] [(.ref se)] [] (rlN (S7.atM 1 rfl) (rlN (S7.atM 2 rfl) rl0)) ?_
  rintro T8 _ _ _ ⟨rfl, rfl, rfl⟩ hro8 S8
  replace S8 := S8.n0
  refine C.putfield S8 (host := "") (Or.inl (W H 264 rfl)) Via.refl (D64 17 rfl) 0 rfl 4 rfl (Or.inr ⟨(W H 265 rfl), rfl, rfl⟩) (W H 237 rfl) (ty := .int) (by decide) rfl rfl 36 rfl fun T9 S9 => ?_
  replace S9 := S9.asL (L' := [(se, O6 Z (.ref pr) (.ref nona) (.ref nona) (.ref t) (.int (n32 cs.length)) .null (.int 0) (.int 0) (.int 0))]) rfl
  refine C.a1 S9 (D64 18 rfl) rfl rfl <| C.a1 S9 (D64 19 rfl) rfl rfl <| C.gm S9 (W H 266 rfl) (D64 20 rfl) 0 rfl 11 rfl fun T10 S10 => C.a1 S10 (D64 21 rfl) rfl rfl <| C.gm S10 (W H 267 rfl) (D64 22 rfl) 0 rfl 10 rfl fun T11 S11 => C.iadd S11 (D64 23 rfl) 46 rfl (0 : Int32) (by decide) <| C.if_neF S11 (D64 24 rfl) 49 rfl (by decide) <| C.getstatic S11 (Or.inr (W H 245 rfl)) Via.refl (D64 25 rfl) H.2.2.2.hNO 52 rfl fun T13 S13 => C.g S13 (D64 26 rfl) 68 rfl <| C.putfield S13 (host := "") (Or.inl (W H 268 rfl)) Via.refl (D64 27 rfl) 0 rfl 5 rfl (Or.inr ⟨(W H 269 rfl), rfl, rfl⟩) (W H 237 rfl) (ty := (.array .int)) (by decide) rfl rfl 71 rfl fun T14 S14 => C.a1 S14 (D64 28 rfl) rfl rfl <| C.gl S14 (W H 268 rfl) (D64 29 rfl) 0 rfl 5 rfl fun T15 S15 => C.a1 S15 (D64 30 rfl) rfl rfl <| C.gm S15 (W H 266 rfl) (D64 31 rfl) 0 rfl 11 rfl fun T16 S16 => C.a1 S16 (D64 32 rfl) rfl rfl <| C.gm S16 (W H 266 rfl) (D64 33 rfl) 0 rfl 11 rfl fun T17 S17 => ?_
  refine C.k1 S17 (D64 34 rfl) 3 rfl <| C.a1 S17 (D64 35 rfl) rfl rfl <| C.gm S17 (W H 267 rfl) (D64 36 rfl) 0 rfl 10 rfl fun T18 S18 => C.imul S18 (D64 37 rfl) 89 rfl (0 : Int32) (by decide) <| C.iadd S18 (D64 38 rfl) 90 rfl (0 : Int32) (by decide) <| C.k1 S18 (D64 39 rfl) (-1) rfl <| C.xs S18 (W H 270 rfl) (W H 271 rfl) (W H 171 rfl) (W H 272 rfl) (filC H) (D64 40 rfl) pd36 [(.ref nona), (.int 0), (.int 0), (.int (-1))] [] [] rl0 ?_
  rintro T19 _ _ _ ⟨rfl, rfl, rfl⟩ hro19 S19
  replace S19 := S19.n0
  exact C.rV S19 (D64 41 rfl) [0] ⟨rfl, rfl, rfl⟩
theorem fnd01 {cs : List Int32} {cp : Int32} {ix : Nat} {u w : Int32} (hu : u = 0 ∨ u = 1) (hw : w = 0 ∨ w = 1) : fnd cs cp ix u w = 0 ∨ fnd cs cp ix u w = 1 := by
  unfold fnd; split
  · split
    · split
      · exact hu
      · split
        · split
          · exact hu
          · exact hw
        · exact hu
    · exact Or.inl rfl
  · exact Or.inr rfl
theorem bool01 {r0 : Int32} (h : r0 = 0 ∨ r0 = 1) : nar .boolean r0 = r0 := by rcases h with q | q <;> rw [q] <;> decide
def findG (cs : List Int32) (cp : Int32) : Nat → Nat → Int32
  | 0, ix => fnd cs cp ix 0 0
  | 1, ix => fnd cs cp ix (findG cs cp 0 (ix + 1)) 0
  | r + 2, ix => fnd cs cp ix (findG cs cp (r + 1) (ix + 1)) (findG cs cp r (ix + 2))
def fG (cs : List Int32) (cp : Int32) (ix : Nat) : Int32 := findG cs cp (cs.length - ix) ix
theorem fG_s {cs : List Int32} {cp : Int32} {ix : Nat} (h : ix < cs.length) : ∃ w, fG cs cp ix = fnd cs cp ix (fG cs cp (ix + 1)) w ∧ (ix + 1 < cs.length → w = fG cs cp (ix + 2)) := by
  unfold fG
  obtain ⟨r, hr⟩ : ∃ r, cs.length - ix = r + 1 := ⟨cs.length - ix - 1, by omega⟩
  rw [hr, show cs.length - (ix + 1) = r by omega]
  cases r with
  | zero => exact ⟨0, by simp only [Nat.zero_add, findG], fun q => by omega⟩
  | succ r => exact ⟨_, by rw [findG], fun _ => by rw [show cs.length - (ix + 2) = r by omega]⟩
theorem gA {cs : List Int32} {cp : Int32} {ix : Nat} (h : endF cs cp ix < 0) (hl : ix < cs.length) (H : hiB (cs.getD ix 0) = 0) : fG cs cp ix = fG cs cp (ix + 1) := by
  obtain ⟨w, e, -⟩ := fG_s (cp := cp) hl; rw [e, fnd_a h hl H]
theorem gB {cs : List Int32} {cp : Int32} {ix : Nat} (h : endF cs cp ix < 0) (hl : ix < cs.length) (H : ¬ hiB (cs.getD ix 0) = 0) (h2 : ix + 1 < cs.length) (hlo : loB (cs.getD (ix + 1) 0) = 0) : fG cs cp ix = fG cs cp (ix + 1) := by
  obtain ⟨w, e, -⟩ := fG_s (cp := cp) hl; rw [e, fnd_b h hl H h2 hlo]
theorem gC {cs : List Int32} {cp : Int32} {ix : Nat} (h : endF cs cp ix < 0) (hl : ix < cs.length) (H : ¬ hiB (cs.getD ix 0) = 0) (h2 : ix + 1 < cs.length) (hlo : ¬ loB (cs.getD (ix + 1) 0) = 0) : fG cs cp ix = fG cs cp (ix + 2) := by
  obtain ⟨w, e, q⟩ := fG_s (cp := cp) hl; rw [e, fnd_c h hl H h2 hlo, q h2]
theorem gD {cs : List Int32} {cp : Int32} {ix : Nat} (h : endF cs cp ix < 0) (hl : ix < cs.length) (H : ¬ hiB (cs.getD ix 0) = 0) (h2 : ¬ ix + 1 < cs.length) : fG cs cp ix = fG cs cp (ix + 1) := by
  obtain ⟨w, e, -⟩ := fG_s (cp := cp) hl; rw [e, fnd_d h hl H h2]
theorem g0' {cs : List Int32} {cp : Int32} {ix : Nat} (h : endF cs cp ix < 0) (hl : ¬ ix < cs.length) : fG cs cp ix = 0 := by
  unfold fG; rw [show cs.length - ix = 0 by omega, findG, fnd_0 h hl]
theorem g1' {cs : List Int32} {cp : Int32} {ix : Nat} (h : ¬ endF cs cp ix < 0) : fG cs cp ix = 1 := by
  unfold fG
  rcases hq : cs.length - ix with _ | _ | r <;> rw [findG, fnd_1 h]
theorem fG01 {cs : List Int32} {cp : Int32} : ∀ (r ix : Nat), findG cs cp r ix = 0 ∨ findG cs cp r ix = 1
  | 0, _ => fnd01 (Or.inl rfl) (Or.inl rfl)
  | 1, ix => fnd01 (fG01 0 (ix + 1)) (Or.inl rfl)
  | r + 2, ix => fnd01 (fG01 (r + 1) (ix + 1)) (fG01 r (ix + 2))
theorem n32_su2 {ix : Nat} : n32 ix + 2 = n32 (ix + 2) := by rw [show (2 : Int32) = 1 + 1 from rfl, ← Int32.add_assoc, n32_suc, n32_suc]
theorem store4 {s0' s1' s2' : Value} {o : Slot} {v : Int32} (h : One o) : storeLocals #[.val s0', .val s1', .val s2', o] 3 (.int v) = some #[.val s0', .val s1', .val s2', .val (.int v)] := by
  rcases h with rfl | ⟨w, rfl, hw⟩
  · rfl
  · cases w <;> first | rfl | (simp [Value.category] at hw)
def Rn (lch : Launch) (Z : State) (nona se pr t b : Addr) (PT PB : Cell → Prop) (cs : List Int32) (cp : Int32) (po pn pa pb pcc pd plv : Addr) (Kr : HL) (en : Int32) (ov : List Value) : Prop :=
  ∀ (ix : Nat) (at8 : Int32), ix ≤ cs.length → (endF cs cp ix < 0 → Con lch Z consts_1 Y62 prog_35_method_3_code 7 (some .int) (rm 9 0 0 141) #[(.ref se), (.int en), (.int (n32 ix)), (.int (-1))] [(se, O6 Z (.ref pr) (.ref nona) (.ref nona) (.ref t) (.int (n32 cs.length)) (.ref nona) (.int 0) (.int 0) (.int at8))] ((t, PT) :: (b, PB) :: (pr, O5 Z (.ref po) (.ref pn) (.ref pa) (.ref pb) (.ref pcc) (.ref pd) (.ref plv) (.int en) .null (.int 0) (.int 0) (.int 0)) :: (po, Ary Z .byte (ov)) :: Kr)
      (fun rv L1 M1 => rv = some (.int (-1)) ∧ L1 = [(se, O6 Z (.ref pr) (.ref nona) (.ref nona) (.ref t) (.int (n32 cs.length)) (.ref nona) (.int 0) (.int 0) (.int (n32 ix)))] ∧ M1 = [])) ∧ (¬ endF cs cp ix < 0 → Con lch Z consts_1 Y62 prog_35_method_3_code 7 (some .int) (rm 9 0 0 141) #[(.ref se), (.int en), (.int (n32 ix)), (.int (-1))] [(se, O6 Z (.ref pr) (.ref nona) (.ref nona) (.ref t) (.int (n32 cs.length)) (.ref nona) (.int 0) (.int 0) (.int at8))] ((t, PT) :: (b, PB) :: (pr, O5 Z (.ref po) (.ref pn) (.ref pa) (.ref pb) (.ref pcc) (.ref pd) (.ref plv) (.int en) .null (.int 0) (.int 0) (.int 0)) :: (po, Ary Z .byte (ov)) :: Kr)
      (fun rv L1 M1 => rv = some (.int (endF cs cp ix)) ∧ L1 = [(se, O6 Z (.ref pr) (.ref nona) (.ref nona) (.ref t) (.int (n32 cs.length)) (.ref nona) (.int 0) (.int 0) (.int (endF cs cp ix)))] ∧ M1 = []))
theorem rnN (H : Hy a0 Z cst dce nona sfv) (se pr t b : Addr) (PT PB : Cell → Prop) (cs : List Int32) (cp : Int32) (po pn pa pb pcc pd plv : Addr) (Kr : HL) (en : Int32) (ov : List Value) (ix : Nat) (at8 : Int32) (hR : Rn lch Z nona se pr t b PT PB cs cp po pn pa pb pcc pd plv Kr en ov) (hib : ix ≤ cs.length) (hy : endF cs cp ix < 0) :
    Con lch Z consts_1 Y62 prog_35_method_3_code 7 (some .int) (rm 9 0 0 141) #[(.ref se), (.int en), (.int (n32 ix)), (.int (-1))] [(se, O6 Z (.ref pr) (.ref nona) (.ref nona) (.ref t) (.int (n32 cs.length)) (.ref nona) (.int 0) (.int 0) (.int at8))] ((t, PT) :: (b, PB) :: (pr, O5 Z (.ref po) (.ref pn) (.ref pa) (.ref pb) (.ref pcc) (.ref pd) (.ref plv) (.int en) .null (.int 0) (.int 0) (.int 0)) :: (po, Ary Z .byte (ov)) :: Kr)
      (fun rv L1 M1 => rv = some (.int (-1)) ∧ L1 = [(se, O6 Z (.ref pr) (.ref nona) (.ref nona) (.ref t) (.int (n32 cs.length)) (.ref nona) (.int 0) (.int 0) (.int (n32 ix)))] ∧ M1 = []) := (hR ix at8 hib).1 hy
theorem rnY (H : Hy a0 Z cst dce nona sfv) (se pr t b : Addr) (PT PB : Cell → Prop) (cs : List Int32) (cp : Int32) (po pn pa pb pcc pd plv : Addr) (Kr : HL) (en : Int32) (ov : List Value) (ix : Nat) (at8 : Int32) (hR : Rn lch Z nona se pr t b PT PB cs cp po pn pa pb pcc pd plv Kr en ov) (hib : ix ≤ cs.length) (hy : ¬ endF cs cp ix < 0) :
    Con lch Z consts_1 Y62 prog_35_method_3_code 7 (some .int) (rm 9 0 0 141) #[(.ref se), (.int en), (.int (n32 ix)), (.int (-1))] [(se, O6 Z (.ref pr) (.ref nona) (.ref nona) (.ref t) (.int (n32 cs.length)) (.ref nona) (.int 0) (.int 0) (.int at8))] ((t, PT) :: (b, PB) :: (pr, O5 Z (.ref po) (.ref pn) (.ref pa) (.ref pb) (.ref pcc) (.ref pd) (.ref plv) (.int en) .null (.int 0) (.int 0) (.int 0)) :: (po, Ary Z .byte (ov)) :: Kr)
      (fun rv L1 M1 => rv = some (.int (endF cs cp ix)) ∧ L1 = [(se, O6 Z (.ref pr) (.ref nona) (.ref nona) (.ref t) (.int (n32 cs.length)) (.ref nona) (.int 0) (.int 0) (.int (endF cs cp ix)))] ∧ M1 = []) := (hR ix at8 hib).2 hy
theorem pd37 : parseMethodDescriptor "(III)I" = some ⟨[.int, .int, .int], some .int⟩ := by decide +kernel
theorem fS (H : Hy a0 Z cst dce nona sfv) {se pr t b : Addr} {PT PB : Cell → Prop} {cs : List Int32} {cp : Int32} {po pn pa pb pcc pd plv : Addr} {Kr : HL} {en : Int32} {ov : List Value} {o9 at8 r0 at9 : Int32} {ix : Nat} {sl : Slot} (hT : Tx lch Z t b PT PB cs) (hn3 : cs.length ≤ 3) (hR : Rn lch Z nona se pr t b PT PB cs cp po pn pa pb pcc pd plv Kr en ov) (hen : nth ov en.toNatClampNeg = some (.int o9)) (hen0 : ¬ en < 0) (ho : ¬ o9 = 4) (hib : ix ≤ cs.length) (hsl : One sl) (hr : fG cs cp ix = r0) (IH : ∀ (iy : Nat) {T : State} {at9 : Int32} {sl : Slot}, ix < iy → iy ≤ cs.length → One sl → fG cs cp iy = r0 → St p lch e (rm 10 0 0 190) s m #[(.ref se)] below meth c Z consts_1 h0 [(se, O6 Z (.ref pr) (.ref nona) (.ref nona) (.ref t) (.int (n32 cs.length)) (.ref nona) (.int 0) (.int 0) (.int at8))] T [(se, O6 Z (.ref pr) (.ref nona) (.ref nona) (.ref t) (.int (n32 cs.length)) (.ref nona) (.int 0) (.int 0) (.int at9))] ((t, PT) :: (b, PB) :: (pr, O5 Z (.ref po) (.ref pn) (.ref pa) (.ref pb) (.ref pcc) (.ref pd) (.ref plv) (.int en) .null (.int 0) (.int 0) (.int 0)) :: (po, Ary Z .byte (ov)) :: Kr) 0 0 → Go p e below (Qw (rm 10 0 0 190) s Z consts_1 h0 [(se, O6 Z (.ref pr) (.ref nona) (.ref nona) (.ref t) (.int (n32 cs.length)) (.ref nona) (.int 0) (.int 0) (.int at8))] (fun rv L1 M1 => ∃ (at7 : Int32), rv = some (.int r0) ∧ L1 = [(se, O6 Z (.ref pr) (.ref nona) (.ref nona) (.ref t) (.int (n32 cs.length)) (.ref nona) (.int 0) (.int 0) (.int at7))] ∧ M1 = [])) (T.setTop (mkF m 4 #[.val (.ref se), .val (.int 0), .val (.int (n32 iy)), sl] [])))
    (C : Cx p s m meth c Z consts_1 Y58.cls prog_35_method_2_code 4 (some .boolean) Y58.name) (S0 : St p lch e (rm 10 0 0 190) s m #[(.ref se)] below meth c Z consts_1 h0 [(se, O6 Z (.ref pr) (.ref nona) (.ref nona) (.ref t) (.int (n32 cs.length)) (.ref nona) (.int 0) (.int 0) (.int at8))] T0 [(se, O6 Z (.ref pr) (.ref nona) (.ref nona) (.ref t) (.int (n32 cs.length)) (.ref nona) (.int 0) (.int 0) (.int at9))] ((t, PT) :: (b, PB) :: (pr, O5 Z (.ref po) (.ref pn) (.ref pa) (.ref pb) (.ref pcc) (.ref pd) (.ref plv) (.int en) .null (.int 0) (.int 0) (.int 0)) :: (po, Ary Z .byte (ov)) :: Kr) 0 0) :
    Go p e below (Qw (rm 10 0 0 190) s Z consts_1 h0 [(se, O6 Z (.ref pr) (.ref nona) (.ref nona) (.ref t) (.int (n32 cs.length)) (.ref nona) (.int 0) (.int 0) (.int at8))] (fun rv L1 M1 => ∃ (at7 : Int32), rv = some (.int r0) ∧ L1 = [(se, O6 Z (.ref pr) (.ref nona) (.ref nona) (.ref t) (.int (n32 cs.length)) (.ref nona) (.int 0) (.int 0) (.int at7))] ∧ M1 = [])) (T0.setTop (mkF m 4 #[vr se, vi 0, vi (n32 ix), sl] [])) := by
  by_cases hy : endF cs cp ix < 0
  · refine C.i1 S0 (D65 0 rfl) rfl <| C.if_neF S0 (D65 1 rfl) 8 rfl (by decide) <| C.a1 S0 (D65 2 rfl) rfl rfl <| C.a1 S0 (D65 3 rfl) rfl rfl <| C.gl S0 (W H 242 rfl) (D65 4 rfl) 0 rfl 0 rfl fun T2 S2 => C.gm S2 (W H 281 rfl) (D65 5 rfl) 2 rfl 7 rfl fun T3 S3 => C.i1 S3 (D65 6 rfl) rfl <| C.k1 S3 (D65 7 rfl) (-1) rfl <| C.xp (y' := Y58) S3 (S3.exa 0 rfl) (W H 282 rfl) (W H 283 rfl) (W H 278 rfl) (W H 279 rfl) (W H 284 rfl) (W H 238 rfl) (W H 285 rfl) (rnN H se pr t b PT PB cs cp po pn pa pb pcc pd plv Kr en (ov) ix at9 hR hib hy) (D65 8 rfl) pd37 [(.int en), (.int (n32 ix)), (.int (-1))] [] [0] (S3.roA [0] rfl) ?_
    rintro T4 _ _ _ ⟨rfl, rfl, rfl⟩ hro4 S4
    replace S4 := S4.nc (L' := [(se, O6 Z (.ref pr) (.ref nona) (.ref nona) (.ref t) (.int (n32 cs.length)) (.ref nona) (.int 0) (.int 0) (.int (n32 ix)))]) rfl
    refine C.if_ltT S4 (D65 9 rfl) 28 rfl (by decide) <| C.k1 S4 (D65 10 rfl) 0 rfl <| C.istoreN S4 (D65 11 rfl) 30 rfl #[vr se, vi 0, vi (n32 ix), sl] rfl <| C.i1 S4 (D65 12 rfl) rfl <| C.if_neF S4 (D65 13 rfl) 34 rfl (by decide) <| C.a1 S4 (D65 14 rfl) rfl rfl <| C.gl S4 (W H 242 rfl) (D65 15 rfl) 0 rfl 0 rfl fun T7 S7 => C.gm S7 (W H 296 rfl) (D65 16 rfl) 2 rfl 0 rfl fun T8 S8 => C.a1 S8 (D65 17 rfl) rfl rfl <| C.gl S8 (W H 242 rfl) (D65 18 rfl) 0 rfl 0 rfl fun T9 S9 => C.gm S9 (W H 281 rfl) (D65 19 rfl) 2 rfl 7 rfl fun T10 S10 => C.baload S10 (S10.atM 3 rfl) (D65 20 rfl) 49 rfl hen0 en.toNatClampNeg rfl hen <| C.k1 S10 (D65 21 rfl) 4 rfl <| C.icmp_eq S10 (D65 22 rfl) 125 53 (by decide) (by decide) rfl (fun hc11 => absurd hc11 ho) fun hc11 => C.i1 S10 (D65 23 rfl) rfl <| C.a1 S10 (D65 24 rfl) rfl rfl <| C.gl S10 (W H 264 rfl) (D65 25 rfl) 0 rfl 4 rfl fun T12 S12 => C.icmp_lt S12 (D65 26 rfl) 64 61 (by decide) (by decide) rfl (fun hc13 => ?_) fun hc13 => ?_
    · refine C.a1 S12 (D65 27 rfl) rfl rfl <| C.gl S12 (W H 251 rfl) (D65 28 rfl) 0 rfl 3 rfl fun T14 S14 => C.i1 S14 (D65 29 rfl) rfl <| C.xv S14 (hT.1 _ (S14.atM 0 rfl)) (W H 384 rfl) (W H 385 rfl) (Or.inl ⟨_, (W H 387 rfl)⟩) (W H 387 rfl) (W H 386 rfl) (W H 11 rfl) (W H 388 rfl) (txCa H t b PT PB cs ix hT ((n32_lt hib hn3).mp hc13)) (D65 30 rfl) pd30 [(.int (n32 ix))] [] [] (rlN (S14.atM 0 rfl) (rlN (S14.atM 1 rfl) rl0)) ?_
      rintro T15 _ _ _ ⟨rfl, rfl, rfl⟩ hro15 S15
      replace S15 := S15.n0
      refine C.xs S15 (W H 399 rfl) (W H 372 rfl) (W H 373 rfl) (W H 374 rfl) (isHi H (cs.getD ix 0)) (D65 31 rfl) pd14 [(.int (cs.getD ix 0))] [] [] rl0 ?_
      rintro T16 _ _ _ ⟨rfl, rfl, rfl⟩ hro16 S16
      replace S16 := S16.n0
      refine C.if_eq S16 (D65 32 rfl) 108 78 (by decide) (by decide) rfl (fun hc17 => ?_) fun hc17 => ?_
      · refine C.k1 S16 (D65 33 rfl) 0 rfl <| C.istoreN S16 (D65 34 rfl) 110 rfl #[vr se, vi 0, vi (n32 ix), vi 0] (store4 hsl) <| C.i1 S16 (D65 35 rfl) rfl <| C.i1 S16 (D65 36 rfl) rfl <| C.if_eqT S16 (D65 37 rfl) 119 rfl (by decide) <| C.k1 S16 (D65 38 rfl) 1 rfl <| C.iadd S16 (D65 39 rfl) 121 rfl (n32 (ix + 1)) n32_suc <| C.istoreN S16 (D65 40 rfl) 122 rfl #[vr se, vi 0, vi (n32 (ix + 1)), vi 0] rfl <| C.g S16 (D65 41 rfl) 4 rfl ?_
        exact IH (ix + 1) (by omega) (Nat.succ_le_of_lt ((n32_lt hib hn3).mp hc13)) (One.val rfl) ((gA hy ((n32_lt hib hn3).mp hc13) hc17).symm.trans hr) S16
      · refine C.i1 S16 (D65 42 rfl) rfl <| C.k1 S16 (D65 43 rfl) 1 rfl <| C.iadd S16 (D65 44 rfl) 81 rfl (n32 (ix + 1)) n32_suc <| C.a1 S16 (D65 45 rfl) rfl rfl <| C.gl S16 (W H 264 rfl) (D65 46 rfl) 0 rfl 4 rfl fun T19 S19 => C.icmp_ge S19 (D65 47 rfl) 108 88 (by decide) (by decide) rfl (fun hc20 => ?_) fun hc20 => ?_
        · refine C.k1 S19 (D65 33 rfl) 0 rfl <| C.istoreN S19 (D65 34 rfl) 110 rfl #[vr se, vi 0, vi (n32 ix), vi 0] (store4 hsl) <| C.i1 S19 (D65 35 rfl) rfl <| C.i1 S19 (D65 36 rfl) rfl <| C.if_eqT S19 (D65 37 rfl) 119 rfl (by decide) <| C.k1 S19 (D65 38 rfl) 1 rfl <| C.iadd S19 (D65 39 rfl) 121 rfl (n32 (ix + 1)) n32_suc <| C.istoreN S19 (D65 40 rfl) 122 rfl #[vr se, vi 0, vi (n32 (ix + 1)), vi 0] rfl <| C.g S19 (D65 41 rfl) 4 rfl ?_
          exact IH (ix + 1) (by omega) (Nat.succ_le_of_lt ((n32_lt hib hn3).mp hc13)) (One.val rfl) ((gD hy ((n32_lt hib hn3).mp hc13) hc17 (fun w => hc20 ((n32_lt (Nat.succ_le_of_lt ((n32_lt hib hn3).mp hc13)) hn3).mpr w))).symm.trans hr) S19
        · refine C.a1 S19 (D65 48 rfl) rfl rfl <| C.gl S19 (W H 251 rfl) (D65 49 rfl) 0 rfl 3 rfl fun T22 S22 => C.i1 S22 (D65 50 rfl) rfl <| C.k1 S22 (D65 51 rfl) 1 rfl <| C.iadd S22 (D65 52 rfl) 95 rfl (n32 (ix + 1)) n32_suc <| C.xv S22 (hT.1 _ (S22.atM 0 rfl)) (W H 384 rfl) (W H 385 rfl) (Or.inl ⟨_, (W H 387 rfl)⟩) (W H 387 rfl) (W H 386 rfl) (W H 11 rfl) (W H 388 rfl) (txCa H t b PT PB cs (ix + 1) hT ((n32_lt (Nat.succ_le_of_lt ((n32_lt hib hn3).mp hc13)) hn3).mp hc20)) (D65 53 rfl) pd30 [(.int (n32 (ix + 1)))] [] [] (rlN (S22.atM 0 rfl) (rlN (S22.atM 1 rfl) rl0)) ?_
          rintro T23 _ _ _ ⟨rfl, rfl, rfl⟩ hro23 S23
          replace S23 := S23.n0
          refine C.xs S23 (W H 400 rfl) (W H 378 rfl) (W H 373 rfl) (W H 379 rfl) (isLo H (cs.getD (ix + 1) 0)) (D65 54 rfl) pd14 [(.int (cs.getD (ix + 1) 0))] [] [] rl0 ?_
          rintro T24 _ _ _ ⟨rfl, rfl, rfl⟩ hro24 S24
          replace S24 := S24.n0
          refine C.if_eq S24 (D65 55 rfl) 108 104 (by decide) (by decide) rfl (fun hc25 => ?_) fun hc25 => ?_
          · refine C.k1 S24 (D65 33 rfl) 0 rfl <| C.istoreN S24 (D65 34 rfl) 110 rfl #[vr se, vi 0, vi (n32 ix), vi 0] (store4 hsl) <| C.i1 S24 (D65 35 rfl) rfl <| C.i1 S24 (D65 36 rfl) rfl <| C.if_eqT S24 (D65 37 rfl) 119 rfl (by decide) <| C.k1 S24 (D65 38 rfl) 1 rfl <| C.iadd S24 (D65 39 rfl) 121 rfl (n32 (ix + 1)) n32_suc <| C.istoreN S24 (D65 40 rfl) 122 rfl #[vr se, vi 0, vi (n32 (ix + 1)), vi 0] rfl <| C.g S24 (D65 41 rfl) 4 rfl ?_
            exact IH (ix + 1) (by omega) (Nat.succ_le_of_lt ((n32_lt hib hn3).mp hc13)) (One.val rfl) ((gB hy ((n32_lt hib hn3).mp hc13) hc17 ((n32_lt (Nat.succ_le_of_lt ((n32_lt hib hn3).mp hc13)) hn3).mp hc20) hc25).symm.trans hr) S24
          · refine C.k1 S24 (D65 56 rfl) 1 rfl <| C.g S24 (D65 57 rfl) 109 rfl <| C.istoreN S24 (D65 34 rfl) 110 rfl #[vr se, vi 0, vi (n32 ix), vi 1] (store4 hsl) <| C.i1 S24 (D65 35 rfl) rfl <| C.i1 S24 (D65 36 rfl) rfl <| C.if_eqF S24 (D65 37 rfl) 115 rfl (by decide) <| C.k1 S24 (D65 58 rfl) 2 rfl <| C.g S24 (D65 59 rfl) 120 rfl <| C.iadd S24 (D65 39 rfl) 121 rfl (n32 (ix + 2)) n32_su2 <| C.istoreN S24 (D65 40 rfl) 122 rfl #[vr se, vi 0, vi (n32 (ix + 2)), vi 1] rfl <| C.g S24 (D65 41 rfl) 4 rfl ?_
            exact IH (ix + 2) (by omega) (Nat.succ_le_of_lt ((n32_lt (Nat.succ_le_of_lt ((n32_lt hib hn3).mp hc13)) hn3).mp hc20)) (One.val rfl) ((gC hy ((n32_lt hib hn3).mp hc13) hc17 ((n32_lt (Nat.succ_le_of_lt ((n32_lt hib hn3).mp hc13)) hn3).mp hc20) hc25).symm.trans hr) S24
    · refine C.g S12 (D65 60 rfl) 125 rfl <| C.i1 S12 (D65 61 rfl) rfl ?_
      exact C.rN S12 (D65 62 rfl) 0 (by decide) [0] ⟨(n32 ix), by rw [← hr, g0' hy (fun w => hc13 ((n32_lt hib hn3).mpr w))], rfl, rfl⟩
  · refine C.i1 S0 (D65 0 rfl) rfl <| C.if_neF S0 (D65 1 rfl) 8 rfl (by decide) <| C.a1 S0 (D65 2 rfl) rfl rfl <| C.a1 S0 (D65 3 rfl) rfl rfl <| C.gl S0 (W H 242 rfl) (D65 4 rfl) 0 rfl 0 rfl fun T29 S29 => C.gm S29 (W H 281 rfl) (D65 5 rfl) 2 rfl 7 rfl fun T30 S30 => C.i1 S30 (D65 6 rfl) rfl <| C.k1 S30 (D65 7 rfl) (-1) rfl <| C.xp (y' := Y58) S30 (S30.exa 0 rfl) (W H 282 rfl) (W H 283 rfl) (W H 278 rfl) (W H 279 rfl) (W H 284 rfl) (W H 238 rfl) (W H 285 rfl) (rnY H se pr t b PT PB cs cp po pn pa pb pcc pd plv Kr en (ov) ix at9 hR hib hy) (D65 8 rfl) pd37 [(.int en), (.int (n32 ix)), (.int (-1))] [] [0] (S30.roA [0] rfl) ?_
    rintro T31 _ _ _ ⟨rfl, rfl, rfl⟩ hro31 S31
    replace S31 := S31.nc (L' := [(se, O6 Z (.ref pr) (.ref nona) (.ref nona) (.ref t) (.int (n32 cs.length)) (.ref nona) (.int 0) (.int 0) (.int (endF cs cp ix)))]) rfl
    refine C.if_lt S31 (D65 9 rfl) 28 24 (by decide) (by decide) rfl (fun hc32 => absurd hc32 hy) fun hc32 => C.k1 S31 (D65 63 rfl) 1 rfl <| C.g S31 (D65 64 rfl) 29 rfl <| C.istoreN S31 (D65 11 rfl) 30 rfl #[vr se, vi 1, vi (n32 ix), sl] rfl <| C.i1 S31 (D65 12 rfl) rfl <| C.if_neT S31 (D65 13 rfl) 125 rfl (by decide) <| C.i1 S31 (D65 61 rfl) rfl ?_
    exact C.rN S31 (D65 62 rfl) 1 (by decide) [0] ⟨(endF cs cp ix), by rw [← hr, g1' hy], rfl, rfl⟩
theorem fAll (H : Hy a0 Z cst dce nona sfv) {se pr t b : Addr} {PT PB : Cell → Prop} {cs : List Int32} {cp : Int32} {po pn pa pb pcc pd plv : Addr} {Kr : HL} {en : Int32} {ov : List Value} {o9 at8 r0 : Int32} (hT : Tx lch Z t b PT PB cs) (hn3 : cs.length ≤ 3) (hR : Rn lch Z nona se pr t b PT PB cs cp po pn pa pb pcc pd plv Kr en ov) (hen : nth ov en.toNatClampNeg = some (.int o9)) (hen0 : ¬ en < 0) (ho : ¬ o9 = 4)
    (C : Cx p s m meth c Z consts_1 Y58.cls prog_35_method_2_code 4 (some .boolean) Y58.name) : ∀ (k ix : Nat) {T0 : State} {at9 : Int32} {sl : Slot}, cs.length - ix ≤ k → ix ≤ cs.length → One sl → fG cs cp ix = r0 → St p lch e (rm 10 0 0 190) s m #[(.ref se)] below meth c Z consts_1 h0 [(se, O6 Z (.ref pr) (.ref nona) (.ref nona) (.ref t) (.int (n32 cs.length)) (.ref nona) (.int 0) (.int 0) (.int at8))] T0 [(se, O6 Z (.ref pr) (.ref nona) (.ref nona) (.ref t) (.int (n32 cs.length)) (.ref nona) (.int 0) (.int 0) (.int at9))] ((t, PT) :: (b, PB) :: (pr, O5 Z (.ref po) (.ref pn) (.ref pa) (.ref pb) (.ref pcc) (.ref pd) (.ref plv) (.int en) .null (.int 0) (.int 0) (.int 0)) :: (po, Ary Z .byte (ov)) :: Kr) 0 0 → Go p e below (Qw (rm 10 0 0 190) s Z consts_1 h0 [(se, O6 Z (.ref pr) (.ref nona) (.ref nona) (.ref t) (.int (n32 cs.length)) (.ref nona) (.int 0) (.int 0) (.int at8))] (fun rv L1 M1 => ∃ (at7 : Int32), rv = some (.int r0) ∧ L1 = [(se, O6 Z (.ref pr) (.ref nona) (.ref nona) (.ref t) (.int (n32 cs.length)) (.ref nona) (.int 0) (.int 0) (.int at7))] ∧ M1 = [])) (T0.setTop (mkF m 4 #[.val (.ref se), .val (.int 0), .val (.int (n32 ix)), sl] [])) := by
  intro k
  induction k with
  | zero => exact fun ix T0 at9 sl hk hib hsl hr S0 => fS H hT hn3 hR hen hen0 ho hib hsl hr (fun iy _ _ _ h1 h2 _ _ _ => absurd h1 (by omega)) C S0
  | succ k ih => exact fun ix T0 at9 sl hk hib hsl hr S0 => fS H hT hn3 hR hen hen0 ho hib hsl hr (fun iy _ _ _ h1 h2 h3 h4 S => ih iy (by omega) h2 h3 h4 S) C S0
theorem findC (H : Hy a0 Z cst dce nona sfv) (se pr t b : Addr) (PT PB : Cell → Prop) (cs : List Int32) (cp : Int32) (po pn pa pb pcc pd plv : Addr) (Kr : HL) (en : Int32) (ov : List Value) (o9 at8 r0 : Int32) (hT : Tx lch Z t b PT PB cs) (hn3 : cs.length ≤ 3) (hR : Rn lch Z nona se pr t b PT PB cs cp po pn pa pb pcc pd plv Kr en ov) (hen : nth ov en.toNatClampNeg = some (.int o9)) (hen0 : ¬ en < 0) (ho : ¬ o9 = 4) (hr : fG cs cp 0 = r0) :
    Con lch Z consts_1 Y58 prog_35_method_2_code 4 (some .boolean) (rm 10 0 0 190) #[(.ref se)] [(se, O6 Z (.ref pr) (.ref nona) (.ref nona) (.ref t) (.int (n32 cs.length)) (.ref nona) (.int 0) (.int 0) (.int at8))] ((t, PT) :: (b, PB) :: (pr, O5 Z (.ref po) (.ref pn) (.ref pa) (.ref pb) (.ref pcc) (.ref pd) (.ref plv) (.int en) .null (.int 0) (.int 0) (.int 0)) :: (po, Ary Z .byte (ov)) :: Kr)
      (fun rv L1 M1 => ∃ (at7 : Int32), rv = some (.int r0) ∧ L1 = [(se, O6 Z (.ref pr) (.ref nona) (.ref nona) (.ref t) (.int (n32 cs.length)) (.ref nona) (.int 0) (.int 0) (.int at7))] ∧ M1 = []) := by
  refine Con.ob #[vr se, us, us, us] (plainFor_of_name pn15) ?_
  intro p e s m below meth c T0 h0 C S0
  refine C.k1 S0 (D65 65 rfl) 0 rfl <| C.istoreN S0 (D65 66 rfl) 2 rfl #[vr se, vi 0, us, us] rfl <| C.k1 S0 (D65 67 rfl) 0 rfl <| C.istoreN S0 (D65 68 rfl) 4 rfl #[vr se, vi 0, vi 0, us] rfl ?_
  exact fAll H hT hn3 hR hen hen0 ho C cs.length 0 (Nat.sub_le _ _) (Nat.zero_le _) One.u hr S0
theorem layO6 {a0 : Array Value} {Z : State} (hw : Hw a0 Z) : LaidAll Z a0 "com/example/honest_errors/honesterrors/jsonschema/RegexProgram$Search" [("com/example/honest_errors/honesterrors/jsonschema/RegexProgram$Search", "this$0", "Lcom/example/honest_errors/honesterrors/jsonschema/RegexProgram;", (.object "com/example/honest_errors/honesterrors/jsonschema/RegexProgram")), ("com/example/honest_errors/honesterrors/jsonschema/RegexProgram$Search", "choices", "[I", (.array .int)), ("com/example/honest_errors/honesterrors/jsonschema/RegexProgram$Search", "trail", "[I", (.array .int)), ("com/example/honest_errors/honesterrors/jsonschema/RegexProgram$Search", "text", "Ljava/lang/String;", (.object "java/lang/String")), ("com/example/honest_errors/honesterrors/jsonschema/RegexProgram$Search", "length", "I", .int), ("com/example/honest_errors/honesterrors/jsonschema/RegexProgram$Search", "registers", "[I", (.array .int)), ("com/example/honest_errors/honesterrors/jsonschema/RegexProgram$Search", "chosen", "I", .int), ("com/example/honest_errors/honesterrors/jsonschema/RegexProgram$Search", "trailed", "I", .int), ("com/example/honest_errors/honesterrors/jsonschema/RegexProgram$Search", "at", "I", .int)] := ⟨⟨Or.inr (W0 hw 243 rfl), by decide⟩, ⟨⟨Or.inl (W0 hw 248 rfl), by decide⟩, ⟨⟨Or.inl (W0 hw 250 rfl), by decide⟩, ⟨⟨Or.inr (W0 hw 252 rfl), by decide⟩, ⟨⟨Or.inr (W0 hw 265 rfl), by decide⟩, ⟨⟨Or.inr (W0 hw 269 rfl), by decide⟩, ⟨⟨Or.inl (W0 hw 287 rfl), by decide⟩, ⟨⟨Or.inl (W0 hw 289 rfl), by decide⟩, ⟨⟨Or.inl (W0 hw 291 rfl), by decide⟩, trivial⟩⟩⟩⟩⟩⟩⟩⟩⟩
theorem pd38 : parseMethodDescriptor "(Lcom/example/honest_errors/honesterrors/jsonschema/RegexProgram;Ljava/lang/String;)V" = some ⟨[(.object "com/example/honest_errors/honesterrors/jsonschema/RegexProgram"), (.object "java/lang/String")], none⟩ := by decide +kernel
theorem prFP (H : Hy a0 Z cst dce nona sfv) (pr t b : Addr) (PT PB : Cell → Prop) (cs : List Int32) (cp : Int32) (po pn pa pb pcc pd plv : Addr) (r0 : Int32) (hT : Tx lch Z t b PT PB cs) (hn3 : cs.length ≤ 3) (hcp : Cpt cp) (hr : fG cs cp 0 = r0) :
    Con lch Z consts_1 Y66 prog_34_method_2_code 2 (some .boolean) (rm 11 1 13 205) #[(.ref pr), (.ref t)] [] [(t, PT), (b, PB), (pr, O5 Z (.ref po) (.ref pn) (.ref pa) (.ref pb) (.ref pcc) (.ref pd) (.ref plv) (.int 0) .null (.int 0) (.int 0) (.int 0)), (po, Ary Z .byte [(.int 1), (.int 21)]), (pn, Ary Z .int [(.int 1), (.int (-1))]), (pa, Ary Z .int [(.int cp), (.int 0)]), (pb, Ary Z .int [(.int 0), (.int 0)]), (pcc, Ary Z .int [(.int 0), (.int 0)])]
      (fun rv L1 M1 => rv = some (.int r0) ∧ L1 = [] ∧ M1 = []) := by
  refine Con.ob #[vr pr, vr t] (plainFor_of_name pn14) ?_
  intro p e s m below meth c T0 h0 C S0
  refine C.new S0 (W H 236 rfl) (W H 237 rfl) (W H 238 rfl) (D66 0 rfl) (layO6 H.1) (by decide) 3 rfl (leD rfl) (leD rfl) fun T1 b1 S1 => C.dup S1 (D66 1 rfl) 4 rfl rfl <| C.a1 S1 (D66 2 rfl) rfl rfl <| C.a1 S1 (D66 3 rfl) rfl rfl <| C.xi (a := b1) S1 (W H 239 rfl) (W H 240 rfl) (W H 238 rfl) (W H 241 rfl) (srInit H b1 pr t b PT PB cs po pn pa pb pcc pd plv (0 : Int32) hT) (D66 4 rfl) pd38 [(.ref pr), (.ref t)] [(.ref b1)] [0] (S1.roP (is := [0]) (js := [2, 0, 1]) rfl rfl) ?_
  rintro T2 _ _ _ ⟨rfl, rfl, rfl⟩ hro2 S2
  replace S2 := S2.nc (L' := [(b1, O6 Z (.ref pr) (.ref nona) (.ref nona) (.ref t) (.int (n32 cs.length)) (.ref nona) (.int 0) (.int 0) (.int 0))]) rfl
  refine C.xv S2 (S2.exa 0 rfl) (W H 276 rfl) (W H 277 rfl) (Or.inl ⟨_, (W H 279 rfl)⟩) (W H 279 rfl) (W H 278 rfl) (W H 238 rfl) (W H 280 rfl) (findC H b1 pr t b PT PB cs cp po pn pa pb pcc pd plv [(pn, Ary Z .int [(.int 1), (.int (-1))]), (pa, Ary Z .int [(.int cp), (.int 0)]), (pb, Ary Z .int [(.int 0), (.int 0)]), (pcc, Ary Z .int [(.int 0), (.int 0)])] (0 : Int32) [(.int 1), (.int 21)] (1 : Int32) (0 : Int32) r0 hT hn3 (fun ix at8 hib => ⟨fun hy => runPN H b1 _ t b PT PB cs cp ix po pn pa pb pcc pd plv at8 hT hcp hib hn3 hy, fun hy => runPY H b1 _ t b PT PB cs cp ix po pn pa pb pcc pd plv at8 hT hcp hib hn3 hy⟩) rfl (by decide) (by decide) hr) (D66 5 rfl) pd11 [] [] [0] (S2.roA [0] rfl) ?_
  rintro T3 _ _ _ ⟨at4, rfl, rfl, rfl⟩ hro3 S3
  replace S3 := S3.nc (L' := [(b1, O6 Z (.ref pr) (.ref nona) (.ref nona) (.ref t) (.int (n32 cs.length)) (.ref nona) (.int 0) (.int 0) (.int at4))]) rfl
  exact C.rN S3 (D66 6 rfl) r0 (bool01 (hr ▸ fG01 _ _)) [] ⟨rfl, rfl, rfl⟩
theorem prFR (H : Hy a0 Z cst dce nona sfv) (pr t b : Addr) (PT PB : Cell → Prop) (cs : List Int32) (cp : Int32) (po pn pa pb pcc pd plv : Addr) (kd r0 : Int32) (hT : Tx lch Z t b PT PB cs) (hn3 : cs.length ≤ 3) (hcp : Cpt cp) (hk : kd = 6 ∨ kd = 7 ∨ kd = 8) (hr : fG cs cp 0 = r0) :
    Con lch Z consts_1 Y66 prog_34_method_2_code 2 (some .boolean) (rm 11 1 13 205) #[(.ref pr), (.ref t)] [] [(t, PT), (b, PB), (pr, O5 Z (.ref po) (.ref pn) (.ref pa) (.ref pb) (.ref pcc) (.ref pd) (.ref plv) (.int 1) .null (.int 0) (.int 0) (.int 0)), (po, Ary Z .byte [(.int 1), (.int kd), (.int 21)]), (pn, Ary Z .int [(.int (-1)), (.int 2), (.int (-1))]), (pa, Ary Z .int [(.int cp), (.int ((-1 : Int32) - cp)), (.int 0)]), (pb, Ary Z .int [(.int 0), (.int 1), (.int 0)]), (pcc, Ary Z .int [(.int 0), (.int 1), (.int 0)])]
      (fun rv L1 M1 => rv = some (.int r0) ∧ L1 = [] ∧ M1 = []) := by
  refine Con.ob #[vr pr, vr t] (plainFor_of_name pn14) ?_
  intro p e s m below meth c T0 h0 C S0
  refine C.new S0 (W H 236 rfl) (W H 237 rfl) (W H 238 rfl) (D66 0 rfl) (layO6 H.1) (by decide) 3 rfl (leD rfl) (leD rfl) fun T1 b1 S1 => C.dup S1 (D66 1 rfl) 4 rfl rfl <| C.a1 S1 (D66 2 rfl) rfl rfl <| C.a1 S1 (D66 3 rfl) rfl rfl <| C.xi (a := b1) S1 (W H 239 rfl) (W H 240 rfl) (W H 238 rfl) (W H 241 rfl) (srInit H b1 pr t b PT PB cs po pn pa pb pcc pd plv (1 : Int32) hT) (D66 4 rfl) pd38 [(.ref pr), (.ref t)] [(.ref b1)] [0] (S1.roP (is := [0]) (js := [2, 0, 1]) rfl rfl) ?_
  rintro T2 _ _ _ ⟨rfl, rfl, rfl⟩ hro2 S2
  replace S2 := S2.nc (L' := [(b1, O6 Z (.ref pr) (.ref nona) (.ref nona) (.ref t) (.int (n32 cs.length)) (.ref nona) (.int 0) (.int 0) (.int 0))]) rfl
  refine C.xv S2 (S2.exa 0 rfl) (W H 276 rfl) (W H 277 rfl) (Or.inl ⟨_, (W H 279 rfl)⟩) (W H 279 rfl) (W H 278 rfl) (W H 238 rfl) (W H 280 rfl) (findC H b1 pr t b PT PB cs cp po pn pa pb pcc pd plv [(pn, Ary Z .int [(.int (-1)), (.int 2), (.int (-1))]), (pa, Ary Z .int [(.int cp), (.int ((-1 : Int32) - cp)), (.int 0)]), (pb, Ary Z .int [(.int 0), (.int 1), (.int 0)]), (pcc, Ary Z .int [(.int 0), (.int 1), (.int 0)])] (1 : Int32) [(.int 1), (.int kd), (.int 21)] kd (0 : Int32) r0 hT hn3 (fun ix at8 hib => ⟨fun hy => runRN H b1 _ t b PT PB cs cp ix po pn pa pb pcc pd plv kd at8 hT hcp hib hn3 hy hk, fun hy => runRY H b1 _ t b PT PB cs cp ix po pn pa pb pcc pd plv kd at8 hT hcp hib hn3 hy hk⟩) rfl (by decide) (kd_no hk (by decide)) hr) (D66 5 rfl) pd11 [] [] [0] (S2.roA [0] rfl) ?_
  rintro T3 _ _ _ ⟨at4, rfl, rfl, rfl⟩ hro3 S3
  replace S3 := S3.nc (L' := [(b1, O6 Z (.ref pr) (.ref nona) (.ref nona) (.ref t) (.int (n32 cs.length)) (.ref nona) (.int 0) (.int 0) (.int at4))]) rfl
  exact C.rN S3 (D66 6 rfl) r0 (bool01 (hr ▸ fG01 _ _)) [] ⟨rfl, rfl, rfl⟩
def hereF (cs : List Int32) (ix : Nat) (cp uA uB : Int32) : Int32 :=
  if cp < 65536 then
    if cp < 55296 then (if cs.getD ix 0 = cp then 1 else 0)
    else if 57343 < cp then (if cs.getD ix 0 = cp then 1 else 0)
    else (if cs.getD ix 0 = cp then (if hiB (cs.getD ix 0) = 0 then 1 else if ix + 1 < cs.length then (if loB (cs.getD (ix + 1) 0) = 0 then 1 else 0) else 1) else 0)
  else (if ix + 1 < cs.length then (if cs.getD ix 0 = uA then (if cs.getD (ix + 1) 0 = uB then 1 else 0) else 0) else 0)
def rchF (cs : List Int32) : Nat → Int32
  | 0 => 1
  | k + 1 => if hiB (cs.getD k 0) = 0 then 1 else if loB (cs.getD (k + 1) 0) = 0 then 1 else 0
def mtF (cs : List Int32) (ix : Nat) (cp uA uB : Int32) : Int32 := if hereF cs ix cp uA uB = 0 then 0 else if rchF cs ix = 0 then 0 else 1
section Here
variable {cs : List Int32} {ix k : Nat} {cp uA uB : Int32}
theorem hA1 (h1 : cp < 65536) (h2 : cp < 55296) (h3 : cs.getD ix 0 = cp) : hereF cs ix cp uA uB = 1 := by rw [hereF, if_pos h1, if_pos h2, if_pos h3]
theorem hA0 (h1 : cp < 65536) (h2 : cp < 55296) (h3 : ¬ cs.getD ix 0 = cp) : hereF cs ix cp uA uB = 0 := by rw [hereF, if_pos h1, if_pos h2, if_neg h3]
theorem hB1 (h1 : cp < 65536) (h2 : ¬ cp < 55296) (h4 : 57343 < cp) (h3 : cs.getD ix 0 = cp) : hereF cs ix cp uA uB = 1 := by rw [hereF, if_pos h1, if_neg h2, if_pos h4, if_pos h3]
theorem hB0 (h1 : cp < 65536) (h2 : ¬ cp < 55296) (h4 : 57343 < cp) (h3 : ¬ cs.getD ix 0 = cp) : hereF cs ix cp uA uB = 0 := by rw [hereF, if_pos h1, if_neg h2, if_pos h4, if_neg h3]
theorem hC0 (h1 : cp < 65536) (h2 : ¬ cp < 55296) (h4 : ¬ 57343 < cp) (h3 : ¬ cs.getD ix 0 = cp) : hereF cs ix cp uA uB = 0 := by rw [hereF, if_pos h1, if_neg h2, if_neg h4, if_neg h3]
theorem hC1 (h1 : cp < 65536) (h2 : ¬ cp < 55296) (h4 : ¬ 57343 < cp) (h3 : cs.getD ix 0 = cp) (h5 : hiB (cs.getD ix 0) = 0) : hereF cs ix cp uA uB = 1 := by rw [hereF, if_pos h1, if_neg h2, if_neg h4, if_pos h3, if_pos h5]
theorem hC2 (h1 : cp < 65536) (h2 : ¬ cp < 55296) (h4 : ¬ 57343 < cp) (h3 : cs.getD ix 0 = cp) (h5 : ¬ hiB (cs.getD ix 0) = 0) (h6 : ix + 1 < cs.length) (h7 : loB (cs.getD (ix + 1) 0) = 0) : hereF cs ix cp uA uB = 1 := by rw [hereF, if_pos h1, if_neg h2, if_neg h4, if_pos h3, if_neg h5, if_pos h6, if_pos h7]
theorem hC3 (h1 : cp < 65536) (h2 : ¬ cp < 55296) (h4 : ¬ 57343 < cp) (h3 : cs.getD ix 0 = cp) (h5 : ¬ hiB (cs.getD ix 0) = 0) (h6 : ix + 1 < cs.length) (h7 : ¬ loB (cs.getD (ix + 1) 0) = 0) : hereF cs ix cp uA uB = 0 := by rw [hereF, if_pos h1, if_neg h2, if_neg h4, if_pos h3, if_neg h5, if_pos h6, if_neg h7]
theorem hC4 (h1 : cp < 65536) (h2 : ¬ cp < 55296) (h4 : ¬ 57343 < cp) (h3 : cs.getD ix 0 = cp) (h5 : ¬ hiB (cs.getD ix 0) = 0) (h6 : ¬ ix + 1 < cs.length) : hereF cs ix cp uA uB = 1 := by rw [hereF, if_pos h1, if_neg h2, if_neg h4, if_pos h3, if_neg h5, if_neg h6]
theorem hS0 (h1 : ¬ cp < 65536) (h6 : ¬ ix + 1 < cs.length) : hereF cs ix cp uA uB = 0 := by rw [hereF, if_neg h1, if_neg h6]
theorem hS1 (h1 : ¬ cp < 65536) (h6 : ix + 1 < cs.length) (h3 : ¬ cs.getD ix 0 = uA) : hereF cs ix cp uA uB = 0 := by rw [hereF, if_neg h1, if_pos h6, if_neg h3]
theorem hS2 (h1 : ¬ cp < 65536) (h6 : ix + 1 < cs.length) (h3 : cs.getD ix 0 = uA) (h4 : ¬ cs.getD (ix + 1) 0 = uB) : hereF cs ix cp uA uB = 0 := by rw [hereF, if_neg h1, if_pos h6, if_pos h3, if_neg h4]
theorem hS3 (h1 : ¬ cp < 65536) (h6 : ix + 1 < cs.length) (h3 : cs.getD ix 0 = uA) (h4 : cs.getD (ix + 1) 0 = uB) : hereF cs ix cp uA uB = 1 := by rw [hereF, if_neg h1, if_pos h6, if_pos h3, if_pos h4]
theorem rch_a (h : hiB (cs.getD k 0) = 0) : rchF cs (k + 1) = 1 := by rw [rchF, if_pos h]
theorem rch_b (h : ¬ hiB (cs.getD k 0) = 0) (h2 : loB (cs.getD (k + 1) 0) = 0) : rchF cs (k + 1) = 1 := by rw [rchF, if_neg h, if_pos h2]
theorem rch_c (h : ¬ hiB (cs.getD k 0) = 0) (h2 : ¬ loB (cs.getD (k + 1) 0) = 0) : rchF cs (k + 1) = 0 := by rw [rchF, if_neg h, if_neg h2]
theorem mt_0 (h : hereF cs ix cp uA uB = 0) : mtF cs ix cp uA uB = 0 := by rw [mtF, if_pos h]
theorem mt_r (h : ¬ hereF cs ix cp uA uB = 0) (h2 : rchF cs ix = 0) : mtF cs ix cp uA uB = 0 := by rw [mtF, if_neg h, if_pos h2]
theorem mt_1 (h : ¬ hereF cs ix cp uA uB = 0) (h2 : rchF cs ix = 1) : mtF cs ix cp uA uB = 1 := by rw [mtF, if_neg h, h2]; rfl
end Here
theorem chr_at {cs : List Int32} {ix : Nat} (h : ix < cs.length) : nth (chars cs) ix = some (.int (cs.getD ix 0)) := by
  rw [chars, nth_map, nth_get, List.getElem?_eq_getElem h, List.getD_eq_getElem?_getD, List.getElem?_eq_getElem h]; rfl
theorem n32_pred {k : Nat} : n32 (k + 1) - 1 = n32 k := by rw [← n32_suc]; simp
theorem n32_ne0 {k : Nat} (h : k + 1 ≤ 3) : ¬ n32 (k + 1) = 0 := fun q => by
  have := congrArg Int32.toInt q
  rw [n32_int (by omega), show (0 : Int32).toInt = 0 from rfl] at this; omega
theorem matO (H : Hy a0 Z cst dce nona sfv) (a : Addr) (n9 i9 cp uA uB : Int32) (hge : ¬ i9 < n9) :
    Con lch Z consts_1 Y67 method_6_code 9 (some .boolean) (rm 0 0 0 0) #[(.ref a), (.int n9), (.int i9), (.int cp), (.int uA), (.int uB)] [] []
      (fun rv L1 M1 => rv = some (.int 0) ∧ L1 = [] ∧ M1 = []) := by
  refine Con.ob #[vr a, vi n9, vi i9, vi cp, vi uA, vi uB, us, us, us] (plainFor_of_name pn2) ?_
  intro p e s m below meth c T0 h0 C S0
  refine C.i1 S0 (D67 0 rfl) rfl <| C.i1 S0 (D67 1 rfl) rfl <| C.icmp_lt S0 (D67 2 rfl) 7 5 (by decide) (by decide) rfl (fun hc1 => absurd hc1 hge) fun hc1 => C.k1 S0 (D67 3 rfl) 0 rfl ?_
  exact C.rN S0 (D67 4 rfl) 0 (by decide) [] ⟨rfl, rfl, rfl⟩
theorem matZ (H : Hy a0 Z cst dce nona sfv) (a : Addr) (cs : List Int32) (cp uA uB : Int32) (hlt : 0 < cs.length) (hn3 : cs.length ≤ 3) :
    Con lch Z consts_1 Y67 method_6_code 9 (some .boolean) (rm 1 0 0 12) #[(.ref a), (.int (n32 cs.length)), (.int 0), (.int cp), (.int uA), (.int uB)] [] [(a, Ary Z .char (chars cs))]
      (fun rv L1 M1 => rv = some (.int (mtF cs (0) cp uA uB)) ∧ L1 = [] ∧ M1 = []) := by
  refine Con.ob #[vr a, vi (n32 cs.length), vi 0, vi cp, vi uA, vi uB, us, us, us] (plainFor_of_name pn2) ?_
  intro p e s m below meth c T0 h0 C S0
  refine C.i1 S0 (D67 0 rfl) rfl <| C.i1 S0 (D67 1 rfl) rfl ?_
  refine C.icmp_lt S0 (D67 2 rfl) 7 5 (by decide) (by decide) rfl (fun hc1 => ?_) fun hc1 => absurd ((n32_lt (ix := 0) (Nat.le_of_lt hlt) hn3).mpr hlt) hc1
  refine C.a1 S0 (D67 5 rfl) rfl rfl <| C.i1 S0 (D67 6 rfl) rfl <| C.caload S0 (S0.atM 0 rfl) (D67 7 rfl) 10 rfl (by decide) 0 rfl (chr_at hlt) <| C.istore S0 (D67 8 rfl) 12 rfl #[vr a, vi (n32 cs.length), vi 0, vi cp, vi uA, vi uB, vi (cs.getD 0 0), us, us] rfl <| S0.cut (α := Int32) (H := fun hv => hv = hereF cs (0) cp uA uB) (f := fun hv T' => T'.setTop (mkF m 125 #[vr a, vi (n32 cs.length), vi 0, vi cp, vi uA, vi uB, vi (cs.getD 0 0), vi hv, us] [])) (fun T2 hv S2 hhv => ?_) fun J => ?_
  · show Go p e below _ (T2.setTop (mkF m 125 #[vr a, vi (n32 cs.length), vi 0, vi cp, vi uA, vi uB, vi (cs.getD 0 0), vi hv, us] []))
    refine C.i1 S2 (D67 9 rfl) rfl <| C.if_eqT S2 (D67 10 rfl) 148 rfl (by decide) <| C.k1 S2 (D67 11 rfl) 1 rfl <| C.g S2 (D67 12 rfl) 153 rfl <| C.istore S2 (D67 13 rfl) 155 rfl #[vr a, vi (n32 cs.length), vi 0, vi cp, vi uA, vi uB, vi (cs.getD 0 0), vi hv, vi 1] rfl <| C.i2 S2 (D67 14 rfl) rfl <| C.if_eq S2 (D67 15 rfl) 169 160 (by decide) (by decide) rfl (fun hc4 => ?_) fun hc4 => ?_
    · refine C.k1 S2 (D67 16 rfl) 0 rfl ?_
      exact C.rN S2 (D67 17 rfl) 0 (by decide) [] ⟨by rw [mt_0 (hhv.symm.trans hc4)], rfl, rfl⟩
    · refine C.i2 S2 (D67 18 rfl) rfl <| C.if_eqF S2 (D67 19 rfl) 165 rfl (by decide) <| C.k1 S2 (D67 20 rfl) 1 rfl <| C.g S2 (D67 21 rfl) 170 rfl ?_
      exact C.rN S2 (D67 17 rfl) 1 (by decide) [] ⟨by rw [mt_1 (fun q => hc4 (hhv.trans q)) rfl], rfl, rfl⟩
  · refine C.i1 S0 (D67 22 rfl) rfl <| C.ldcInt S0 (W H 2 rfl) (D67 23 rfl) 15 rfl <| C.icmp_ge S0 (D67 24 rfl) 46 18 (by decide) (by decide) rfl (fun hc6 => ?_) fun hc6 => ?_
    · refine C.i1 S0 (D67 25 rfl) rfl <| C.ldcInt S0 (W H 2 rfl) (D67 26 rfl) 49 rfl <| C.icmp_lt S0 (D67 27 rfl) 86 52 (by decide) (by decide) rfl (fun hc7 => absurd hc7 hc6) fun hc7 => C.i1 S0 (D67 28 rfl) rfl <| C.k1 S0 (D67 29 rfl) 1 rfl <| C.iadd S0 (D67 30 rfl) 55 rfl (1 : Int32) (by decide) <| C.i1 S0 (D67 31 rfl) rfl <| C.icmp_ge S0 (D67 32 rfl) 80 59 (by decide) (by decide) rfl (fun hc8 => ?_) fun hc8 => ?_
      · refine C.k1 S0 (D67 33 rfl) 0 rfl <| C.istore S0 (D67 34 rfl) 83 rfl #[vr a, vi (n32 cs.length), vi 0, vi cp, vi uA, vi uB, vi (cs.getD 0 0), vi 0, us] rfl <| C.g S0 (D67 35 rfl) 125 rfl ?_
        exact J _ (0 : Int32) S0 (hS0 hc6 (fun w => hc8 ((n32_lt (Nat.succ_le_of_lt hlt) hn3).mpr w))).symm
      · refine C.i2 S0 (D67 36 rfl) rfl <| C.i2 S0 (D67 37 rfl) rfl <| C.icmp_ne S0 (D67 38 rfl) 80 66 (by decide) (by decide) rfl (fun hc9 => ?_) fun hc9 => ?_
        · refine C.k1 S0 (D67 33 rfl) 0 rfl <| C.istore S0 (D67 34 rfl) 83 rfl #[vr a, vi (n32 cs.length), vi 0, vi cp, vi uA, vi uB, vi (cs.getD 0 0), vi 0, us] rfl <| C.g S0 (D67 35 rfl) 125 rfl ?_
          exact J _ (0 : Int32) S0 (hS1 hc6 ((n32_lt (Nat.succ_le_of_lt hlt) hn3).mp hc8) hc9).symm
        · refine C.a1 S0 (D67 39 rfl) rfl rfl <| C.i1 S0 (D67 40 rfl) rfl <| C.k1 S0 (D67 41 rfl) 1 rfl <| C.iadd S0 (D67 42 rfl) 70 rfl (1 : Int32) (by decide) <| C.caload S0 (S0.atM 0 rfl) (D67 43 rfl) 71 rfl (by decide) 1 rfl (chr_at ((n32_lt (Nat.succ_le_of_lt hlt) hn3).mp hc8)) <| C.i2 S0 (D67 44 rfl) rfl <| C.icmp_ne S0 (D67 45 rfl) 80 76 (by decide) (by decide) rfl (fun hc10 => ?_) fun hc10 => ?_
          · refine C.k1 S0 (D67 33 rfl) 0 rfl <| C.istore S0 (D67 34 rfl) 83 rfl #[vr a, vi (n32 cs.length), vi 0, vi cp, vi uA, vi uB, vi (cs.getD 0 0), vi 0, us] rfl <| C.g S0 (D67 35 rfl) 125 rfl ?_
            exact J _ (0 : Int32) S0 (hS2 hc6 ((n32_lt (Nat.succ_le_of_lt hlt) hn3).mp hc8) hc9 hc10).symm
          · refine C.k1 S0 (D67 46 rfl) 1 rfl <| C.g S0 (D67 47 rfl) 81 rfl <| C.istore S0 (D67 34 rfl) 83 rfl #[vr a, vi (n32 cs.length), vi 0, vi cp, vi uA, vi uB, vi (cs.getD 0 0), vi 1, us] rfl <| C.g S0 (D67 35 rfl) 125 rfl ?_
            exact J _ (1 : Int32) S0 (hS3 hc6 ((n32_lt (Nat.succ_le_of_lt hlt) hn3).mp hc8) hc9 hc10).symm
    · refine C.i1 S0 (D67 48 rfl) rfl <| C.ldcInt S0 (W H 317 rfl) (D67 49 rfl) 21 rfl <| C.icmp_lt S0 (D67 50 rfl) 30 24 (by decide) (by decide) rfl (fun hc11 => ?_) fun hc11 => ?_
      · refine C.i2 S0 (D67 51 rfl) rfl <| C.i1 S0 (D67 52 rfl) rfl <| C.icmp_ne S0 (D67 53 rfl) 40 36 (by decide) (by decide) rfl (fun hc12 => ?_) fun hc12 => ?_
        · refine C.k1 S0 (D67 54 rfl) 0 rfl <| C.istore S0 (D67 55 rfl) 43 rfl #[vr a, vi (n32 cs.length), vi 0, vi cp, vi uA, vi uB, vi (cs.getD 0 0), vi 0, us] rfl <| C.g S0 (D67 56 rfl) 125 rfl ?_
          exact J _ (0 : Int32) S0 (hA0 hc6 hc11 hc12).symm
        · refine C.k1 S0 (D67 57 rfl) 1 rfl <| C.g S0 (D67 58 rfl) 41 rfl <| C.istore S0 (D67 55 rfl) 43 rfl #[vr a, vi (n32 cs.length), vi 0, vi cp, vi uA, vi uB, vi (cs.getD 0 0), vi 1, us] rfl <| C.g S0 (D67 56 rfl) 125 rfl ?_
          exact J _ (1 : Int32) S0 (hA1 hc6 hc11 hc12).symm
      · refine C.i1 S0 (D67 59 rfl) rfl <| C.ldcInt S0 (W H 433 rfl) (D67 60 rfl) 27 rfl <| C.icmp_le S0 (D67 61 rfl) 46 30 (by decide) (by decide) rfl (fun hc13 => ?_) fun hc13 => ?_
        · refine C.i1 S0 (D67 25 rfl) rfl <| C.ldcInt S0 (W H 2 rfl) (D67 26 rfl) 49 rfl ?_
          refine C.icmp_lt S0 (D67 27 rfl) 86 52 (by decide) (by decide) rfl (fun hc14 => ?_) fun hc14 => absurd hc6 hc14
          refine C.i2 S0 (D67 62 rfl) rfl <| C.i1 S0 (D67 63 rfl) rfl <| C.icmp_ne S0 (D67 64 rfl) 122 92 (by decide) (by decide) rfl (fun hc15 => ?_) fun hc15 => ?_
          · refine C.k1 S0 (D67 65 rfl) 0 rfl <| C.istore S0 (D67 66 rfl) 125 rfl #[vr a, vi (n32 cs.length), vi 0, vi cp, vi uA, vi uB, vi (cs.getD 0 0), vi 0, us] rfl ?_
            exact J _ (0 : Int32) S0 (hC0 hc6 hc11 hc13 hc15).symm
          · refine C.i2 S0 (D67 67 rfl) rfl <| C.xs S0 (W H 402 rfl) (W H 403 rfl) (W H 5 rfl) (W H 404 rfl) (lawHi H (cs.getD 0 0)) (D67 68 rfl) pd14 [(.int (cs.getD 0 0))] [] [] rl0 ?_
            rintro T16 _ _ _ ⟨rfl, rfl, rfl⟩ hro16 S16
            replace S16 := S16.n0
            refine C.if_eq S16 (D67 69 rfl) 118 100 (by decide) (by decide) rfl (fun hc17 => ?_) fun hc17 => ?_
            · refine C.k1 S16 (D67 70 rfl) 1 rfl <| C.g S16 (D67 71 rfl) 123 rfl <| C.istore S16 (D67 66 rfl) 125 rfl #[vr a, vi (n32 cs.length), vi 0, vi cp, vi uA, vi uB, vi (cs.getD 0 0), vi 1, us] rfl ?_
              exact J _ (1 : Int32) S16 (hC1 hc6 hc11 hc13 hc15 hc17).symm
            · refine C.i1 S16 (D67 72 rfl) rfl <| C.k1 S16 (D67 73 rfl) 1 rfl <| C.iadd S16 (D67 74 rfl) 103 rfl (1 : Int32) (by decide) <| C.i1 S16 (D67 75 rfl) rfl <| C.icmp_ge S16 (D67 76 rfl) 118 107 (by decide) (by decide) rfl (fun hc18 => ?_) fun hc18 => ?_
              · refine C.k1 S16 (D67 70 rfl) 1 rfl <| C.g S16 (D67 71 rfl) 123 rfl <| C.istore S16 (D67 66 rfl) 125 rfl #[vr a, vi (n32 cs.length), vi 0, vi cp, vi uA, vi uB, vi (cs.getD 0 0), vi 1, us] rfl ?_
                exact J _ (1 : Int32) S16 (hC4 hc6 hc11 hc13 hc15 hc17 (fun w => hc18 ((n32_lt (Nat.succ_le_of_lt hlt) hn3).mpr w))).symm
              · refine C.a1 S16 (D67 77 rfl) rfl rfl <| C.i1 S16 (D67 78 rfl) rfl <| C.k1 S16 (D67 79 rfl) 1 rfl <| C.iadd S16 (D67 80 rfl) 111 rfl (1 : Int32) (by decide) <| C.caload S16 (S16.atM 0 rfl) (D67 81 rfl) 112 rfl (by decide) 1 rfl (chr_at ((n32_lt (Nat.succ_le_of_lt hlt) hn3).mp hc18)) <| C.xs S16 (W H 406 rfl) (W H 407 rfl) (W H 5 rfl) (W H 408 rfl) (lawLo H (cs.getD 1 0)) (D67 82 rfl) pd14 [(.int (cs.getD 1 0))] [] [] rl0 ?_
                rintro T19 _ _ _ ⟨rfl, rfl, rfl⟩ hro19 S19
                replace S19 := S19.n0
                refine C.if_ne S19 (D67 83 rfl) 122 118 (by decide) (by decide) rfl (fun hc20 => ?_) fun hc20 => ?_
                · refine C.k1 S19 (D67 65 rfl) 0 rfl <| C.istore S19 (D67 66 rfl) 125 rfl #[vr a, vi (n32 cs.length), vi 0, vi cp, vi uA, vi uB, vi (cs.getD 0 0), vi 0, us] rfl ?_
                  exact J _ (0 : Int32) S19 (hC3 hc6 hc11 hc13 hc15 hc17 ((n32_lt (Nat.succ_le_of_lt hlt) hn3).mp hc18) hc20).symm
                · refine C.k1 S19 (D67 70 rfl) 1 rfl <| C.g S19 (D67 71 rfl) 123 rfl <| C.istore S19 (D67 66 rfl) 125 rfl #[vr a, vi (n32 cs.length), vi 0, vi cp, vi uA, vi uB, vi (cs.getD 0 0), vi 1, us] rfl ?_
                  exact J _ (1 : Int32) S19 (hC2 hc6 hc11 hc13 hc15 hc17 ((n32_lt (Nat.succ_le_of_lt hlt) hn3).mp hc18) hc20).symm
        · refine C.i2 S0 (D67 51 rfl) rfl <| C.i1 S0 (D67 52 rfl) rfl <| C.icmp_ne S0 (D67 53 rfl) 40 36 (by decide) (by decide) rfl (fun hc21 => ?_) fun hc21 => ?_
          · refine C.k1 S0 (D67 54 rfl) 0 rfl <| C.istore S0 (D67 55 rfl) 43 rfl #[vr a, vi (n32 cs.length), vi 0, vi cp, vi uA, vi uB, vi (cs.getD 0 0), vi 0, us] rfl <| C.g S0 (D67 56 rfl) 125 rfl ?_
            exact J _ (0 : Int32) S0 (hB0 hc6 hc11 hc13 hc21).symm
          · refine C.k1 S0 (D67 57 rfl) 1 rfl <| C.g S0 (D67 58 rfl) 41 rfl <| C.istore S0 (D67 55 rfl) 43 rfl #[vr a, vi (n32 cs.length), vi 0, vi cp, vi uA, vi uB, vi (cs.getD 0 0), vi 1, us] rfl <| C.g S0 (D67 56 rfl) 125 rfl ?_
            exact J _ (1 : Int32) S0 (hB1 hc6 hc11 hc13 hc21).symm
theorem matS (H : Hy a0 Z cst dce nona sfv) (a : Addr) (cs : List Int32) (cp uA uB : Int32) (k : Nat) (hlt : k + 1 < cs.length) (hn3 : cs.length ≤ 3) :
    Con lch Z consts_1 Y67 method_6_code 9 (some .boolean) (rm 1 0 0 12) #[(.ref a), (.int (n32 cs.length)), (.int (n32 (k + 1))), (.int cp), (.int uA), (.int uB)] [] [(a, Ary Z .char (chars cs))]
      (fun rv L1 M1 => rv = some (.int (mtF cs (k + 1) cp uA uB)) ∧ L1 = [] ∧ M1 = []) := by
  refine Con.ob #[vr a, vi (n32 cs.length), vi (n32 (k + 1)), vi cp, vi uA, vi uB, us, us, us] (plainFor_of_name pn2) ?_
  intro p e s m below meth c T0 h0 C S0
  refine C.i1 S0 (D67 0 rfl) rfl <| C.i1 S0 (D67 1 rfl) rfl ?_
  refine C.icmp_lt S0 (D67 2 rfl) 7 5 (by decide) (by decide) rfl (fun hc1 => ?_) fun hc1 => absurd ((n32_lt (Nat.le_of_lt hlt) hn3).mpr hlt) hc1
  refine C.a1 S0 (D67 5 rfl) rfl rfl <| C.i1 S0 (D67 6 rfl) rfl <| C.caload S0 (S0.atM 0 rfl) (D67 7 rfl) 10 rfl (n32_nn (ix := (k + 1)) (by omega)) (k + 1) (n32_nat (by omega)) (chr_at hlt) <| C.istore S0 (D67 8 rfl) 12 rfl #[vr a, vi (n32 cs.length), vi (n32 (k + 1)), vi cp, vi uA, vi uB, vi (cs.getD (k + 1) 0), us, us] rfl <| S0.cut (α := Int32) (H := fun hv => hv = hereF cs (k + 1) cp uA uB) (f := fun hv T' => T'.setTop (mkF m 125 #[vr a, vi (n32 cs.length), vi (n32 (k + 1)), vi cp, vi uA, vi uB, vi (cs.getD (k + 1) 0), vi hv, us] [])) (fun T2 hv S2 hhv => ?_) fun J => ?_
  · show Go p e below _ (T2.setTop (mkF m 125 #[vr a, vi (n32 cs.length), vi (n32 (k + 1)), vi cp, vi uA, vi uB, vi (cs.getD (k + 1) 0), vi hv, us] []))
    refine C.i1 S2 (D67 9 rfl) rfl <| C.if_eq S2 (D67 10 rfl) 148 129 (by decide) (by decide) rfl (fun hc3 => absurd hc3 (n32_ne0 (by omega))) fun hc3 => C.a1 S2 (D67 84 rfl) rfl rfl <| C.i1 S2 (D67 85 rfl) rfl <| C.k1 S2 (D67 86 rfl) 1 rfl <| C.isub S2 (D67 87 rfl) 133 rfl (n32 k) n32_pred <| C.caload S2 (S2.atM 0 rfl) (D67 88 rfl) 134 rfl (n32_nn (ix := k) (by omega)) k (n32_nat (by omega)) (chr_at (Nat.lt_of_succ_lt hlt)) <| C.xs S2 (W H 402 rfl) (W H 403 rfl) (W H 5 rfl) (W H 404 rfl) (lawHi H (cs.getD k 0)) (D67 89 rfl) pd14 [(.int (cs.getD k 0))] [] [] rl0 ?_
    rintro T4 _ _ _ ⟨rfl, rfl, rfl⟩ hro4 S4
    replace S4 := S4.n0
    refine C.if_eq S4 (D67 90 rfl) 148 140 (by decide) (by decide) rfl (fun hc5 => ?_) fun hc5 => ?_
    · refine C.k1 S4 (D67 11 rfl) 1 rfl <| C.g S4 (D67 12 rfl) 153 rfl <| C.istore S4 (D67 13 rfl) 155 rfl #[vr a, vi (n32 cs.length), vi (n32 (k + 1)), vi cp, vi uA, vi uB, vi (cs.getD (k + 1) 0), vi hv, vi 1] rfl <| C.i2 S4 (D67 14 rfl) rfl <| C.if_eq S4 (D67 15 rfl) 169 160 (by decide) (by decide) rfl (fun hc6 => ?_) fun hc6 => ?_
      · refine C.k1 S4 (D67 16 rfl) 0 rfl ?_
        exact C.rN S4 (D67 17 rfl) 0 (by decide) [] ⟨by rw [mt_0 (hhv.symm.trans hc6)], rfl, rfl⟩
      · refine C.i2 S4 (D67 18 rfl) rfl <| C.if_eqF S4 (D67 19 rfl) 165 rfl (by decide) <| C.k1 S4 (D67 20 rfl) 1 rfl <| C.g S4 (D67 21 rfl) 170 rfl ?_
        exact C.rN S4 (D67 17 rfl) 1 (by decide) [] ⟨by rw [mt_1 (fun q => hc6 (hhv.trans q)) (rch_a hc5)], rfl, rfl⟩
    · refine C.i2 S4 (D67 91 rfl) rfl <| C.xs S4 (W H 406 rfl) (W H 407 rfl) (W H 5 rfl) (W H 408 rfl) (lawLo H (cs.getD (k + 1) 0)) (D67 92 rfl) pd14 [(.int (cs.getD (k + 1) 0))] [] [] rl0 ?_
      rintro T8 _ _ _ ⟨rfl, rfl, rfl⟩ hro8 S8
      replace S8 := S8.n0
      refine C.if_ne S8 (D67 93 rfl) 152 148 (by decide) (by decide) rfl (fun hc9 => ?_) fun hc9 => ?_
      · refine C.k1 S8 (D67 94 rfl) 0 rfl <| C.istore S8 (D67 13 rfl) 155 rfl #[vr a, vi (n32 cs.length), vi (n32 (k + 1)), vi cp, vi uA, vi uB, vi (cs.getD (k + 1) 0), vi hv, vi 0] rfl <| C.i2 S8 (D67 14 rfl) rfl <| C.if_eq S8 (D67 15 rfl) 169 160 (by decide) (by decide) rfl (fun hc10 => ?_) fun hc10 => ?_
        · refine C.k1 S8 (D67 16 rfl) 0 rfl ?_
          exact C.rN S8 (D67 17 rfl) 0 (by decide) [] ⟨by rw [mt_0 (hhv.symm.trans hc10)], rfl, rfl⟩
        · refine C.i2 S8 (D67 18 rfl) rfl <| C.if_eqT S8 (D67 19 rfl) 169 rfl (by decide) <| C.k1 S8 (D67 16 rfl) 0 rfl ?_
          exact C.rN S8 (D67 17 rfl) 0 (by decide) [] ⟨by rw [mt_r (fun q => hc10 (hhv.trans q)) (rch_c hc5 hc9)], rfl, rfl⟩
      · refine C.k1 S8 (D67 11 rfl) 1 rfl <| C.g S8 (D67 12 rfl) 153 rfl <| C.istore S8 (D67 13 rfl) 155 rfl #[vr a, vi (n32 cs.length), vi (n32 (k + 1)), vi cp, vi uA, vi uB, vi (cs.getD (k + 1) 0), vi hv, vi 1] rfl <| C.i2 S8 (D67 14 rfl) rfl <| C.if_eq S8 (D67 15 rfl) 169 160 (by decide) (by decide) rfl (fun hc12 => ?_) fun hc12 => ?_
        · refine C.k1 S8 (D67 16 rfl) 0 rfl ?_
          exact C.rN S8 (D67 17 rfl) 0 (by decide) [] ⟨by rw [mt_0 (hhv.symm.trans hc12)], rfl, rfl⟩
        · refine C.i2 S8 (D67 18 rfl) rfl <| C.if_eqF S8 (D67 19 rfl) 165 rfl (by decide) <| C.k1 S8 (D67 20 rfl) 1 rfl <| C.g S8 (D67 21 rfl) 170 rfl ?_
          exact C.rN S8 (D67 17 rfl) 1 (by decide) [] ⟨by rw [mt_1 (fun q => hc12 (hhv.trans q)) (rch_b hc5 hc9)], rfl, rfl⟩
  · refine C.i1 S0 (D67 22 rfl) rfl <| C.ldcInt S0 (W H 2 rfl) (D67 23 rfl) 15 rfl <| C.icmp_ge S0 (D67 24 rfl) 46 18 (by decide) (by decide) rfl (fun hc14 => ?_) fun hc14 => ?_
    · refine C.i1 S0 (D67 25 rfl) rfl <| C.ldcInt S0 (W H 2 rfl) (D67 26 rfl) 49 rfl <| C.icmp_lt S0 (D67 27 rfl) 86 52 (by decide) (by decide) rfl (fun hc15 => absurd hc15 hc14) fun hc15 => C.i1 S0 (D67 28 rfl) rfl <| C.k1 S0 (D67 29 rfl) 1 rfl <| C.iadd S0 (D67 30 rfl) 55 rfl (n32 (k + 1 + 1)) n32_suc <| C.i1 S0 (D67 31 rfl) rfl <| C.icmp_ge S0 (D67 32 rfl) 80 59 (by decide) (by decide) rfl (fun hc16 => ?_) fun hc16 => ?_
      · refine C.k1 S0 (D67 33 rfl) 0 rfl <| C.istore S0 (D67 34 rfl) 83 rfl #[vr a, vi (n32 cs.length), vi (n32 (k + 1)), vi cp, vi uA, vi uB, vi (cs.getD (k + 1) 0), vi 0, us] rfl <| C.g S0 (D67 35 rfl) 125 rfl ?_
        exact J _ (0 : Int32) S0 (hS0 hc14 (fun w => hc16 ((n32_lt (Nat.succ_le_of_lt hlt) hn3).mpr w))).symm
      · refine C.i2 S0 (D67 36 rfl) rfl <| C.i2 S0 (D67 37 rfl) rfl <| C.icmp_ne S0 (D67 38 rfl) 80 66 (by decide) (by decide) rfl (fun hc17 => ?_) fun hc17 => ?_
        · refine C.k1 S0 (D67 33 rfl) 0 rfl <| C.istore S0 (D67 34 rfl) 83 rfl #[vr a, vi (n32 cs.length), vi (n32 (k + 1)), vi cp, vi uA, vi uB, vi (cs.getD (k + 1) 0), vi 0, us] rfl <| C.g S0 (D67 35 rfl) 125 rfl ?_
          exact J _ (0 : Int32) S0 (hS1 hc14 ((n32_lt (Nat.succ_le_of_lt hlt) hn3).mp hc16) hc17).symm
        · refine C.a1 S0 (D67 39 rfl) rfl rfl <| C.i1 S0 (D67 40 rfl) rfl <| C.k1 S0 (D67 41 rfl) 1 rfl <| C.iadd S0 (D67 42 rfl) 70 rfl (n32 (k + 1 + 1)) n32_suc <| C.caload S0 (S0.atM 0 rfl) (D67 43 rfl) 71 rfl (n32_nn (ix := (k + 1 + 1)) (by omega)) (k + 1 + 1) (n32_nat (by omega)) (chr_at ((n32_lt (Nat.succ_le_of_lt hlt) hn3).mp hc16)) <| C.i2 S0 (D67 44 rfl) rfl <| C.icmp_ne S0 (D67 45 rfl) 80 76 (by decide) (by decide) rfl (fun hc18 => ?_) fun hc18 => ?_
          · refine C.k1 S0 (D67 33 rfl) 0 rfl <| C.istore S0 (D67 34 rfl) 83 rfl #[vr a, vi (n32 cs.length), vi (n32 (k + 1)), vi cp, vi uA, vi uB, vi (cs.getD (k + 1) 0), vi 0, us] rfl <| C.g S0 (D67 35 rfl) 125 rfl ?_
            exact J _ (0 : Int32) S0 (hS2 hc14 ((n32_lt (Nat.succ_le_of_lt hlt) hn3).mp hc16) hc17 hc18).symm
          · refine C.k1 S0 (D67 46 rfl) 1 rfl <| C.g S0 (D67 47 rfl) 81 rfl <| C.istore S0 (D67 34 rfl) 83 rfl #[vr a, vi (n32 cs.length), vi (n32 (k + 1)), vi cp, vi uA, vi uB, vi (cs.getD (k + 1) 0), vi 1, us] rfl <| C.g S0 (D67 35 rfl) 125 rfl ?_
            exact J _ (1 : Int32) S0 (hS3 hc14 ((n32_lt (Nat.succ_le_of_lt hlt) hn3).mp hc16) hc17 hc18).symm
    · refine C.i1 S0 (D67 48 rfl) rfl <| C.ldcInt S0 (W H 317 rfl) (D67 49 rfl) 21 rfl <| C.icmp_lt S0 (D67 50 rfl) 30 24 (by decide) (by decide) rfl (fun hc19 => ?_) fun hc19 => ?_
      · refine C.i2 S0 (D67 51 rfl) rfl <| C.i1 S0 (D67 52 rfl) rfl <| C.icmp_ne S0 (D67 53 rfl) 40 36 (by decide) (by decide) rfl (fun hc20 => ?_) fun hc20 => ?_
        · refine C.k1 S0 (D67 54 rfl) 0 rfl <| C.istore S0 (D67 55 rfl) 43 rfl #[vr a, vi (n32 cs.length), vi (n32 (k + 1)), vi cp, vi uA, vi uB, vi (cs.getD (k + 1) 0), vi 0, us] rfl <| C.g S0 (D67 56 rfl) 125 rfl ?_
          exact J _ (0 : Int32) S0 (hA0 hc14 hc19 hc20).symm
        · refine C.k1 S0 (D67 57 rfl) 1 rfl <| C.g S0 (D67 58 rfl) 41 rfl <| C.istore S0 (D67 55 rfl) 43 rfl #[vr a, vi (n32 cs.length), vi (n32 (k + 1)), vi cp, vi uA, vi uB, vi (cs.getD (k + 1) 0), vi 1, us] rfl <| C.g S0 (D67 56 rfl) 125 rfl ?_
          exact J _ (1 : Int32) S0 (hA1 hc14 hc19 hc20).symm
      · refine C.i1 S0 (D67 59 rfl) rfl <| C.ldcInt S0 (W H 433 rfl) (D67 60 rfl) 27 rfl <| C.icmp_le S0 (D67 61 rfl) 46 30 (by decide) (by decide) rfl (fun hc21 => ?_) fun hc21 => ?_
        · refine C.i1 S0 (D67 25 rfl) rfl <| C.ldcInt S0 (W H 2 rfl) (D67 26 rfl) 49 rfl ?_
          refine C.icmp_lt S0 (D67 27 rfl) 86 52 (by decide) (by decide) rfl (fun hc22 => ?_) fun hc22 => absurd hc14 hc22
          refine C.i2 S0 (D67 62 rfl) rfl <| C.i1 S0 (D67 63 rfl) rfl <| C.icmp_ne S0 (D67 64 rfl) 122 92 (by decide) (by decide) rfl (fun hc23 => ?_) fun hc23 => ?_
          · refine C.k1 S0 (D67 65 rfl) 0 rfl <| C.istore S0 (D67 66 rfl) 125 rfl #[vr a, vi (n32 cs.length), vi (n32 (k + 1)), vi cp, vi uA, vi uB, vi (cs.getD (k + 1) 0), vi 0, us] rfl ?_
            exact J _ (0 : Int32) S0 (hC0 hc14 hc19 hc21 hc23).symm
          · refine C.i2 S0 (D67 67 rfl) rfl <| C.xs S0 (W H 402 rfl) (W H 403 rfl) (W H 5 rfl) (W H 404 rfl) (lawHi H (cs.getD (k + 1) 0)) (D67 68 rfl) pd14 [(.int (cs.getD (k + 1) 0))] [] [] rl0 ?_
            rintro T24 _ _ _ ⟨rfl, rfl, rfl⟩ hro24 S24
            replace S24 := S24.n0
            refine C.if_eq S24 (D67 69 rfl) 118 100 (by decide) (by decide) rfl (fun hc25 => ?_) fun hc25 => ?_
            · refine C.k1 S24 (D67 70 rfl) 1 rfl <| C.g S24 (D67 71 rfl) 123 rfl <| C.istore S24 (D67 66 rfl) 125 rfl #[vr a, vi (n32 cs.length), vi (n32 (k + 1)), vi cp, vi uA, vi uB, vi (cs.getD (k + 1) 0), vi 1, us] rfl ?_
              exact J _ (1 : Int32) S24 (hC1 hc14 hc19 hc21 hc23 hc25).symm
            · refine C.i1 S24 (D67 72 rfl) rfl <| C.k1 S24 (D67 73 rfl) 1 rfl <| C.iadd S24 (D67 74 rfl) 103 rfl (n32 (k + 1 + 1)) n32_suc <| C.i1 S24 (D67 75 rfl) rfl <| C.icmp_ge S24 (D67 76 rfl) 118 107 (by decide) (by decide) rfl (fun hc26 => ?_) fun hc26 => ?_
              · refine C.k1 S24 (D67 70 rfl) 1 rfl <| C.g S24 (D67 71 rfl) 123 rfl <| C.istore S24 (D67 66 rfl) 125 rfl #[vr a, vi (n32 cs.length), vi (n32 (k + 1)), vi cp, vi uA, vi uB, vi (cs.getD (k + 1) 0), vi 1, us] rfl ?_
                exact J _ (1 : Int32) S24 (hC4 hc14 hc19 hc21 hc23 hc25 (fun w => hc26 ((n32_lt (Nat.succ_le_of_lt hlt) hn3).mpr w))).symm
              · refine C.a1 S24 (D67 77 rfl) rfl rfl <| C.i1 S24 (D67 78 rfl) rfl <| C.k1 S24 (D67 79 rfl) 1 rfl <| C.iadd S24 (D67 80 rfl) 111 rfl (n32 (k + 1 + 1)) n32_suc <| C.caload S24 (S24.atM 0 rfl) (D67 81 rfl) 112 rfl (n32_nn (ix := (k + 1 + 1)) (by omega)) (k + 1 + 1) (n32_nat (by omega)) (chr_at ((n32_lt (Nat.succ_le_of_lt hlt) hn3).mp hc26)) <| C.xs S24 (W H 406 rfl) (W H 407 rfl) (W H 5 rfl) (W H 408 rfl) (lawLo H (cs.getD (k + 1 + 1) 0)) (D67 82 rfl) pd14 [(.int (cs.getD (k + 1 + 1) 0))] [] [] rl0 ?_
                rintro T27 _ _ _ ⟨rfl, rfl, rfl⟩ hro27 S27
                replace S27 := S27.n0
                refine C.if_ne S27 (D67 83 rfl) 122 118 (by decide) (by decide) rfl (fun hc28 => ?_) fun hc28 => ?_
                · refine C.k1 S27 (D67 65 rfl) 0 rfl <| C.istore S27 (D67 66 rfl) 125 rfl #[vr a, vi (n32 cs.length), vi (n32 (k + 1)), vi cp, vi uA, vi uB, vi (cs.getD (k + 1) 0), vi 0, us] rfl ?_
                  exact J _ (0 : Int32) S27 (hC3 hc14 hc19 hc21 hc23 hc25 ((n32_lt (Nat.succ_le_of_lt hlt) hn3).mp hc26) hc28).symm
                · refine C.k1 S27 (D67 70 rfl) 1 rfl <| C.g S27 (D67 71 rfl) 123 rfl <| C.istore S27 (D67 66 rfl) 125 rfl #[vr a, vi (n32 cs.length), vi (n32 (k + 1)), vi cp, vi uA, vi uB, vi (cs.getD (k + 1) 0), vi 1, us] rfl ?_
                  exact J _ (1 : Int32) S27 (hC2 hc14 hc19 hc21 hc23 hc25 ((n32_lt (Nat.succ_le_of_lt hlt) hn3).mp hc26) hc28).symm
        · refine C.i2 S0 (D67 51 rfl) rfl <| C.i1 S0 (D67 52 rfl) rfl <| C.icmp_ne S0 (D67 53 rfl) 40 36 (by decide) (by decide) rfl (fun hc29 => ?_) fun hc29 => ?_
          · refine C.k1 S0 (D67 54 rfl) 0 rfl <| C.istore S0 (D67 55 rfl) 43 rfl #[vr a, vi (n32 cs.length), vi (n32 (k + 1)), vi cp, vi uA, vi uB, vi (cs.getD (k + 1) 0), vi 0, us] rfl <| C.g S0 (D67 56 rfl) 125 rfl ?_
            exact J _ (0 : Int32) S0 (hB0 hc14 hc19 hc21 hc29).symm
          · refine C.k1 S0 (D67 57 rfl) 1 rfl <| C.g S0 (D67 58 rfl) 41 rfl <| C.istore S0 (D67 55 rfl) 43 rfl #[vr a, vi (n32 cs.length), vi (n32 (k + 1)), vi cp, vi uA, vi uB, vi (cs.getD (k + 1) 0), vi 1, us] rfl <| C.g S0 (D67 56 rfl) 125 rfl ?_
            exact J _ (1 : Int32) S0 (hB1 hc14 hc19 hc21 hc29).symm
def drw (x0 uA uB x1 : Int32) : Int32 := if x0 = 0 then uA else if x0 = 1 then uB else if x0 = 2 then ((55296 : Int32) ||| (x1 &&& (2047 : Int32))).toUInt32.toUInt16.toUInt32.toInt32 else (x1 &&& (65535 : Int32)).toUInt32.toUInt16.toUInt32.toInt32
theorem i2c_chr (x0 : Int32) : Chr x0.toUInt32.toUInt16.toUInt32.toInt32 := by
  obtain ⟨-, h1, h2⟩ := c_i2c x0
  constructor
  · rw [Int32.lt_iff_toInt_lt, show (0 : Int32).toInt = 0 from rfl]; omega
  · rw [Int32.lt_iff_toInt_lt, show (65535 : Int32).toInt = 65535 from rfl]; omega
theorem drw_chr {x0 uA uB x1 : Int32} (kA : Chr uA) (kB : Chr uB) : Chr (drw x0 uA uB x1) := by
  unfold drw
  split
  · exact kA
  · split
    · exact kB
    · split <;> exact i2c_chr _
theorem lat_of {c1 : Int32} (k : Chr c1) (u : ¬ 255 < c1) : ¬ c1 < 0 ∧ ¬ 255 < c1 := ⟨k.1, u⟩
theorem cpt_of (x0 : Int32) : Cpt ((x0 &&& 2147483647) % 1114112) := by
  obtain ⟨h1, -⟩ := c_and x0 2147483647 (by decide)
  have q := (c_irem (x0 &&& 2147483647) 1114112 1114112 rfl).1 h1
  constructor
  · rw [toI_lt, show (0 : Int32).toInt = 0 from rfl]; omega
  · rw [toI_lt, show (1114112 : Int32).toInt = 1114112 from rfl]; omega
theorem own_mod3 (x0 : Int32) : (x0 &&& 3) % 3 = 0 ∨ (x0 &&& 3) % 3 = 1 ∨ (x0 &&& 3) % 3 = 2 := by
  rcases and3 x0 with h | h | h | h <;> rw [h] <;> decide
def orF (u v w : Int32) : Int32 := if u = 0 then (if v = 0 then (if w = 0 then 0 else 1) else 1) else 1
theorem or_1 {u v w : Int32} (h : ¬ u = 0) : orF u v w = 1 := by rw [orF, if_neg h]
theorem or_2 {u v w : Int32} (h : u = 0) (h2 : ¬ v = 0) : orF u v w = 1 := by rw [orF, if_pos h, if_neg h2]
theorem or_3 {u v w : Int32} (h : u = 0) (h2 : v = 0) (h3 : ¬ w = 0) : orF u v w = 1 := by rw [orF, if_pos h, if_pos h2, if_neg h3]
theorem or_0 {u v w : Int32} (h : u = 0) (h2 : v = 0) (h3 : w = 0) : orF u v w = 0 := by rw [orF, if_pos h, if_pos h2, if_pos h3]
def Pr (cp uA uB : Int32) : Prop := ∀ a b : Int32, Chr a → Chr b → ((¬ hiB a = 0 ∧ ¬ loB b = 0 ∧ toCP a b = cp) ↔ (a = uA ∧ b = uB))
theorem i2c_id {x0 : Int32} (h : Chr x0) : x0.toUInt32.toUInt16.toUInt32.toInt32 = x0 := by
  obtain ⟨h1, h2⟩ := h
  rw [toI_lt, show (0 : Int32).toInt = 0 from rfl] at h1
  rw [toI_lt, show (65535 : Int32).toInt = 65535 from rfl] at h2
  obtain ⟨a1, a2, a3⟩ := c_i2c x0
  rw [← Int32.toInt_inj]; omega
theorem hi_iff {c : Int32} : ¬ hiB c = 0 ↔ 55296 ≤ c.toInt ∧ c.toInt < 56320 := by
  unfold hiB
  by_cases h : c < 55296
  · rw [if_pos h]; rw [toI_lt, show (55296 : Int32).toInt = 55296 from rfl] at h
    exact ⟨fun q => absurd rfl q, fun q => by omega⟩
  · rw [if_neg h]; rw [toI_lt, show (55296 : Int32).toInt = 55296 from rfl] at h
    by_cases h2 : c < 56320
    · rw [if_pos h2]; rw [toI_lt, show (56320 : Int32).toInt = 56320 from rfl] at h2
      exact ⟨fun _ => by omega, fun _ => by decide⟩
    · rw [if_neg h2]; rw [toI_lt, show (56320 : Int32).toInt = 56320 from rfl] at h2
      exact ⟨fun q => absurd rfl q, fun q => by omega⟩
theorem lo_iff {c : Int32} : ¬ loB c = 0 ↔ 56320 ≤ c.toInt ∧ c.toInt < 57344 := by
  unfold loB
  by_cases h : c < 56320
  · rw [if_pos h]; rw [toI_lt, show (56320 : Int32).toInt = 56320 from rfl] at h
    exact ⟨fun q => absurd rfl q, fun q => by omega⟩
  · rw [if_neg h]; rw [toI_lt, show (56320 : Int32).toInt = 56320 from rfl] at h
    by_cases h2 : c < 57344
    · rw [if_pos h2]; rw [toI_lt, show (57344 : Int32).toInt = 57344 from rfl] at h2
      exact ⟨fun _ => by omega, fun _ => by decide⟩
    · rw [if_neg h2]; rw [toI_lt, show (57344 : Int32).toInt = 57344 from rfl] at h2
      exact ⟨fun q => absurd rfl q, fun q => by omega⟩
theorem sur_iff {c : Int32} : surB c = 0 ↔ c.toInt < 55296 ∨ 57344 ≤ c.toInt := by
  unfold surB
  by_cases h : c < 55296
  · rw [if_pos h]; rw [toI_lt, show (55296 : Int32).toInt = 55296 from rfl] at h
    exact ⟨fun _ => Or.inl h, fun _ => rfl⟩
  · rw [if_neg h]; rw [toI_lt, show (55296 : Int32).toInt = 55296 from rfl] at h
    by_cases h2 : c < 57344
    · rw [if_pos h2]; rw [toI_lt, show (57344 : Int32).toInt = 57344 from rfl] at h2
      exact ⟨fun q => absurd q (by decide), fun q => by omega⟩
    · rw [if_neg h2]; rw [toI_lt, show (57344 : Int32).toInt = 57344 from rfl] at h2
      exact ⟨fun _ => by omega, fun _ => rfl⟩
theorem toCP_int {a b : Int32} (h1 : ¬ hiB a = 0) (h2 : ¬ loB b = 0) : (toCP a b).toInt = a.toInt * 1024 + b.toInt - 56613888 := by
  rw [hi_iff] at h1; rw [lo_iff] at h2
  have s1 := c_ishl a 10 10 rfl
  have s2 := c_iadd (a <<< ((10 : Int32) &&& 31)) b
  have s3 := c_iadd ((a <<< ((10 : Int32) &&& 31)) + b) (-56613888)
  rw [show (-56613888 : Int32).toInt = -56613888 from rfl] at s3
  have r1 := Int32.toInt_lt (toCP a b); have r2 := Int32.le_toInt (toCP a b)
  unfold toCP at r1 r2 ⊢
  omega
theorem and1023 (x : Int32) : (x &&& 1023).toInt = x.toInt % 1024 := by
  have q : (x &&& 1023).toBitVec.toNat = x.toBitVec.toNat % 1024 := by
    rw [Int32.toBitVec_and, BitVec.toNat_and]
    exact Nat.and_two_pow_sub_one_eq_mod x.toBitVec.toNat 10
  have e1 : (x &&& 1023).toInt = ((x &&& 1023).toBitVec.toNat : Int) := by
    have := BitVec.toInt_eq_toNat_cond (x &&& 1023).toBitVec
    have H : (x &&& 1023).toInt = (x &&& 1023).toBitVec.toInt := rfl
    rw [H, this, if_pos (by rw [q]; omega)]
  have e2 : x.toInt = x.toBitVec.toNat ∨ x.toInt = (x.toBitVec.toNat : Int) - 4294967296 := by
    have := BitVec.toInt_eq_toNat_cond x.toBitVec
    have H : x.toInt = x.toBitVec.toInt := rfl
    rw [H, this]; split
    · exact Or.inl rfl
    · exact Or.inr rfl
  rw [e1, q]; omega
theorem pair_of {cp : Int32} (hcp : Cpt cp) (h : ¬ cp < 65536) : Pr cp (((55296 : Int32) + ((cp - (65536 : Int32)) >>> ((10 : Int32) &&& 31))).toUInt32.toUInt16.toUInt32.toInt32) (((56320 : Int32) + ((cp - (65536 : Int32)) &&& (1023 : Int32))).toUInt32.toUInt16.toUInt32.toInt32) := by
  obtain ⟨-, h2⟩ := hcp
  rw [toI_lt, show (1114112 : Int32).toInt = 1114112 from rfl] at h2
  rw [toI_lt, show (65536 : Int32).toInt = 65536 from rfl] at h
  have d0 := c_isub cp 65536
  rw [show (65536 : Int32).toInt = 65536 from rfl] at d0
  have r1 := Int32.toInt_lt (cp - 65536); have r2 := Int32.le_toInt (cp - 65536)
  have d1 : (cp - 65536).toInt = cp.toInt - 65536 := by omega
  have s1 := c_ishr (cp - 65536) 10 10 rfl
  have s2 := and1023 (cp - 65536)
  have s3 := c_iadd (55296 : Int32) ((cp - (65536 : Int32)) >>> ((10 : Int32) &&& 31))
  have s4 := c_iadd (56320 : Int32) ((cp - (65536 : Int32)) &&& (1023 : Int32))
  rw [show (55296 : Int32).toInt = 55296 from rfl] at s3
  rw [show (56320 : Int32).toInt = 56320 from rfl] at s4
  have t1 := Int32.toInt_lt ((55296 : Int32) + ((cp - (65536 : Int32)) >>> ((10 : Int32) &&& 31))); have t2 := Int32.le_toInt ((55296 : Int32) + ((cp - (65536 : Int32)) >>> ((10 : Int32) &&& 31)))
  have t3 := Int32.toInt_lt ((56320 : Int32) + ((cp - (65536 : Int32)) &&& (1023 : Int32))); have t4 := Int32.le_toInt ((56320 : Int32) + ((cp - (65536 : Int32)) &&& (1023 : Int32)))
  obtain ⟨u1, u2, u3⟩ := c_i2c ((55296 : Int32) + ((cp - (65536 : Int32)) >>> ((10 : Int32) &&& 31)))
  obtain ⟨v1, v2, v3⟩ := c_i2c ((56320 : Int32) + ((cp - (65536 : Int32)) &&& (1023 : Int32)))
  have p1 : (((55296 : Int32) + ((cp - (65536 : Int32)) >>> ((10 : Int32) &&& 31))).toUInt32.toUInt16.toUInt32.toInt32).toInt = 55296 + (cp.toInt - 65536) / 1024 := by
    rw [show ((2 ^ 10 : Nat) : Int) = 1024 from rfl] at s1; omega
  have p2 : (((56320 : Int32) + ((cp - (65536 : Int32)) &&& (1023 : Int32))).toUInt32.toUInt16.toUInt32.toInt32).toInt = 56320 + (cp.toInt - 65536) % 1024 := by omega
  intro a b ka kb
  constructor
  · rintro ⟨q1, q2, q3⟩
    have e := toCP_int q1 q2
    rw [q3] at e
    rw [hi_iff] at q1; rw [lo_iff] at q2
    constructor
    · rw [← Int32.toInt_inj, p1]; omega
    · rw [← Int32.toInt_inj, p2]; omega
  · rintro ⟨q1, q2⟩
    rw [← Int32.toInt_inj, p1] at q1
    rw [← Int32.toInt_inj, p2] at q2
    have w1 : ¬ hiB a = 0 := hi_iff.mpr (by omega)
    have w2 : ¬ loB b = 0 := lo_iff.mpr (by omega)
    refine ⟨w1, w2, ?_⟩
    have e := toCP_int w1 w2
    rw [← Int32.toInt_inj, e]; omega
theorem chr_int {c : Int32} (k : Chr c) : 0 ≤ c.toInt ∧ c.toInt ≤ 65535 := by
  obtain ⟨h1, h2⟩ := k
  rw [toI_lt, show (0 : Int32).toInt = 0 from rfl] at h1
  rw [toI_lt, show (65535 : Int32).toInt = 65535 from rfl] at h2
  omega
theorem end_nn1 {ix : Nat} (h : ix ≤ 3) : ¬ n32 ix + 1 < 0 := by
  have a := c_iadd (n32 ix) 1
  rw [n32_int (by omega), show (1 : Int32).toInt = 1 from rfl] at a
  have r1 := Int32.toInt_lt (n32 ix + 1); have r2 := Int32.le_toInt (n32 ix + 1)
  rw [toI_lt, show (0 : Int32).toInt = 0 from rfl]; omega
theorem end_nn2 {ix : Nat} {c : Int32} (h : ix ≤ 3) : ¬ n32 ix + ccF c < 0 := by
  unfold ccF; split
  · exact end_nn1 h
  · have a := c_iadd (n32 ix) 2
    rw [n32_int (by omega), show (2 : Int32).toInt = 2 from rfl] at a
    have r1 := Int32.toInt_lt (n32 ix + 2); have r2 := Int32.le_toInt (n32 ix + 2)
    rw [toI_lt, show (0 : Int32).toInt = 0 from rfl]; omega
/- where a text's sign stands for the code point: the search's end and the law's own reading say the same -/
theorem here_iff {cs : List Int32} {ix : Nat} {cp uA uB : Int32} (hc : Cpt cp) (hU : ¬ cp < 65536 → Pr cp uA uB) (hk : ∀ j, Chr (cs.getD j 0)) (h3 : ix ≤ 3) (hl : ix < cs.length) : endF cs cp ix < 0 ↔ hereF cs ix cp uA uB = 0 := by
  have kc := hk ix
  have kd := hk (ix + 1)
  have ic := chr_int kc
  rw [endF, if_pos hl, hereF]
  have m1 : (-1 : Int32) < 0 := by decide
  by_cases h1 : cp < 65536
  · rw [if_pos h1, if_pos h1]
    have i1 := h1
    rw [toI_lt, show (65536 : Int32).toInt = 65536 from rfl] at i1
    have i0 := hc.1
    rw [toI_lt, show (0 : Int32).toInt = 0 from rfl] at i0
    have kcp : Chr cp := ⟨hc.1, by rw [toI_lt, show (65535 : Int32).toInt = 65535 from rfl]; omega⟩
    rw [i2c_id kcp]
    have simple : surB cp = 0 → ((if surB cp = 0 then (if cs.getD ix 0 = cp then n32 ix + 1 else -1) else (if cpAt cs ix = cp then n32 ix + ccF (cpAt cs ix) else -1)) < 0 ↔ (if cs.getD ix 0 = cp then (1 : Int32) else 0) = 0) := fun hs => by
      rw [if_pos hs]
      by_cases q : cs.getD ix 0 = cp
      · rw [if_pos q, if_pos q]; exact ⟨fun w => absurd w (end_nn1 h3), fun w => absurd w (by decide)⟩
      · rw [if_neg q, if_neg q]; exact ⟨fun _ => rfl, fun _ => m1⟩
    by_cases h2 : cp < 55296
    · rw [if_pos h2]
      exact simple (sur_iff.mpr (Or.inl (by rw [toI_lt, show (55296 : Int32).toInt = 55296 from rfl] at h2; exact h2)))
    · rw [if_neg h2]
      by_cases h4 : 57343 < cp
      · rw [if_pos h4]
        exact simple (sur_iff.mpr (Or.inr (by rw [toI_lt, show (57343 : Int32).toInt = 57343 from rfl] at h4; omega)))
      · rw [if_neg h4]
        have hs : ¬ surB cp = 0 := fun w => by
          rw [toI_lt, show (57343 : Int32).toInt = 57343 from rfl] at h4
          rw [toI_lt, show (55296 : Int32).toInt = 55296 from rfl] at h2
          rcases sur_iff.mp w with w | w <;> omega
        rw [if_neg hs]
        have key : cpAt cs ix = cp ↔ (if cs.getD ix 0 = cp then (if hiB (cs.getD ix 0) = 0 then (1 : Int32) else if ix + 1 < cs.length then (if loB (cs.getD (ix + 1) 0) = 0 then 1 else 0) else 1) else 0) = 1 := by
          unfold cpAt
          by_cases w1 : hiB (cs.getD ix 0) = 0
          · rw [if_pos w1, if_pos w1]
            by_cases q : cs.getD ix 0 = cp
            · rw [if_pos q]; exact ⟨fun _ => rfl, fun _ => q⟩
            · rw [if_neg q]; exact ⟨fun w => absurd w q, fun w => absurd w (by decide)⟩
          · rw [if_neg w1, if_neg w1]
            by_cases w2 : ix + 1 < cs.length
            · rw [if_pos w2, if_pos w2]
              by_cases w3 : loB (cs.getD (ix + 1) 0) = 0
              · rw [if_pos w3, if_pos w3]
                by_cases q : cs.getD ix 0 = cp
                · rw [if_pos q]; exact ⟨fun _ => rfl, fun _ => q⟩
                · rw [if_neg q]; exact ⟨fun w => absurd w q, fun w => absurd w (by decide)⟩
              · rw [if_neg w3, if_neg w3]
                have e := toCP_int w1 w3
                have a1 := hi_iff.mp w1
                have a2 := lo_iff.mp w3
                refine ⟨fun w => ?_, fun w => ?_⟩
                · rw [w] at e; omega
                · split at w <;> exact absurd w (by decide)
            · rw [if_neg w2, if_neg w2]
              by_cases q : cs.getD ix 0 = cp
              · rw [if_pos q]; exact ⟨fun _ => rfl, fun _ => q⟩
              · rw [if_neg q]; exact ⟨fun w => absurd w q, fun w => absurd w (by decide)⟩
        by_cases q : cpAt cs ix = cp
        · rw [if_pos q, key.mp q]
          exact ⟨fun w => absurd w (end_nn2 h3), fun w => absurd w (by decide)⟩
        · rw [if_neg q]
          refine ⟨fun _ => ?_, fun _ => m1⟩
          have nk := fun w => q (key.mpr w)
          by_cases v1 : cs.getD ix 0 = cp
          · rw [if_pos v1] at nk ⊢
            by_cases v2 : hiB (cs.getD ix 0) = 0
            · rw [if_pos v2] at nk; exact absurd rfl nk
            · rw [if_neg v2] at nk ⊢
              by_cases v3 : ix + 1 < cs.length
              · rw [if_pos v3] at nk ⊢
                by_cases v4 : loB (cs.getD (ix + 1) 0) = 0
                · rw [if_pos v4] at nk; exact absurd rfl nk
                · rw [if_neg v4]
              · rw [if_neg v3] at nk; exact absurd rfl nk
          · rw [if_neg v1]
  · rw [if_neg h1, if_neg h1]
    have P := hU h1 (cs.getD ix 0) (cs.getD (ix + 1) 0) kc kd
    have i1 := h1
    rw [toI_lt, show (65536 : Int32).toInt = 65536 from rfl] at i1
    have nc : ¬ cs.getD ix 0 = cp := fun w => by rw [w] at ic; omega
    have key : cpAt cs ix = cp ↔ (ix + 1 < cs.length ∧ cs.getD ix 0 = uA ∧ cs.getD (ix + 1) 0 = uB) := by
      unfold cpAt
      by_cases w1 : hiB (cs.getD ix 0) = 0
      · rw [if_pos w1]; exact ⟨fun w => absurd w nc, fun w => absurd w1 (P.mpr w.2).1⟩
      · rw [if_neg w1]
        by_cases w2 : ix + 1 < cs.length
        · rw [if_pos w2]
          by_cases w3 : loB (cs.getD (ix + 1) 0) = 0
          · rw [if_pos w3]; exact ⟨fun w => absurd w nc, fun w => absurd w3 (P.mpr w.2).2.1⟩
          · rw [if_neg w3]; exact ⟨fun w => ⟨w2, P.mp ⟨w1, w3, w⟩⟩, fun w => (P.mpr w.2).2.2⟩
        · rw [if_neg w2]; exact ⟨fun w => absurd w nc, fun w => absurd w.1 w2⟩
    by_cases q : cpAt cs ix = cp
    · obtain ⟨w2, w3, w4⟩ := key.mp q
      rw [if_pos q, if_pos w2, if_pos w3, if_pos w4]
      exact ⟨fun w => absurd w (end_nn2 h3), fun w => absurd w (by decide)⟩
    · rw [if_neg q]
      refine ⟨fun _ => ?_, fun _ => m1⟩
      by_cases w2 : ix + 1 < cs.length
      · rw [if_pos w2]
        by_cases w3 : cs.getD ix 0 = uA
        · rw [if_pos w3]
          by_cases w4 : cs.getD (ix + 1) 0 = uB
          · exact absurd (key.mpr ⟨w2, w3, w4⟩) q
          · rw [if_neg w4]
        · rw [if_neg w3]
      · rw [if_neg w2]
theorem end_out {cs : List Int32} {cp : Int32} {ix : Nat} (h : ¬ ix < cs.length) : endF cs cp ix < 0 := by rw [endF, if_neg h]; decide
theorem chr0 : Chr 0 := ⟨by decide, by decide⟩
theorem lat0 : ¬ (0 : Int32) < 0 ∧ ¬ 255 < (0 : Int32) := ⟨by decide, by decide⟩
theorem fg0 {cp : Int32} : fG ([] : List Int32) cp 0 = (fnd ([] : List Int32) cp 0 (0 : Int32) (0 : Int32)) := by simp only [fG, List.length_cons, List.length_nil, Nat.sub_zero, Nat.zero_add, findG]
theorem pure0 {cp uA uB : Int32} (hcp : Cpt cp) (hU : ¬ cp < 65536 → Pr cp uA uB) : (fnd ([] : List Int32) cp 0 (0 : Int32) (0 : Int32)) = orF (0 : Int32) (0 : Int32) (0 : Int32) := by
  have hk : True := trivial
  have eN : endF ([] : List Int32) cp 0 < 0 := end_out (by simp)
  rw [fnd_0 eN (by simp)]; exact (or_0 rfl rfl rfl).symm
theorem fg1 {cp c0 : Int32} : fG ([c0] : List Int32) cp 0 = (fnd ([c0] : List Int32) cp 0 (fnd ([c0] : List Int32) cp 1 (0 : Int32) (0 : Int32)) (0 : Int32)) := by simp only [fG, List.length_cons, List.length_nil, Nat.sub_zero, Nat.zero_add, findG]
theorem pure1 {cp uA uB c0 : Int32} (hcp : Cpt cp) (hU : ¬ cp < 65536 → Pr cp uA uB) (k0 : Chr c0) : (fnd ([c0] : List Int32) cp 0 (fnd ([c0] : List Int32) cp 1 (0 : Int32) (0 : Int32)) (0 : Int32)) = orF (mtF ([c0] : List Int32) 0 cp uA uB) (0 : Int32) (0 : Int32) := by
  have hk : ∀ j, Chr (([c0] : List Int32).getD j 0) := fun j => by
    match j with
    | 0 => exact k0
    | n + 1 => exact chr0
  have e0 := here_iff (ix := 0) hcp hU hk (by decide) (by simp)
  have eN : endF ([c0] : List Int32) cp 1 < 0 := end_out (by simp)
  have rc0 : rchF ([c0] : List Int32) 0 = 1 := rfl
  by_cases a0 : hereF ([c0] : List Int32) 0 cp uA uB = 0
  · have z0 : mtF ([c0] : List Int32) 0 cp uA uB = 0 := mt_0 a0
    have b0 := e0.mpr a0
    by_cases g0 : hiB c0 = 0
    · rw [fnd_a b0 (by simp) g0]
      rw [fnd_0 eN (by simp)]; exact (or_0 z0 rfl rfl).symm
    · rw [fnd_d b0 (by simp) g0 (by simp)]
      rw [fnd_0 eN (by simp)]; exact (or_0 z0 rfl rfl).symm
  · have m1 : mtF ([c0] : List Int32) 0 cp uA uB = 1 := mt_1 a0 rc0
    rw [fnd_1 (fun w => a0 (e0.mp w))]; exact (or_1 (by rw [m1]; decide)).symm
theorem fg2 {cp c0 c1 : Int32} : fG ([c0, c1] : List Int32) cp 0 = (fnd ([c0, c1] : List Int32) cp 0 (fnd ([c0, c1] : List Int32) cp 1 (fnd ([c0, c1] : List Int32) cp 2 (0 : Int32) (0 : Int32)) (0 : Int32)) (fnd ([c0, c1] : List Int32) cp 2 (0 : Int32) (0 : Int32))) := by simp only [fG, List.length_cons, List.length_nil, Nat.sub_zero, Nat.zero_add, findG]
theorem pure2 {cp uA uB c0 c1 : Int32} (hcp : Cpt cp) (hU : ¬ cp < 65536 → Pr cp uA uB) (k0 : Chr c0) (k1 : Chr c1) : (fnd ([c0, c1] : List Int32) cp 0 (fnd ([c0, c1] : List Int32) cp 1 (fnd ([c0, c1] : List Int32) cp 2 (0 : Int32) (0 : Int32)) (0 : Int32)) (fnd ([c0, c1] : List Int32) cp 2 (0 : Int32) (0 : Int32))) = orF (mtF ([c0, c1] : List Int32) 0 cp uA uB) (mtF ([c0, c1] : List Int32) 1 cp uA uB) (0 : Int32) := by
  have hk : ∀ j, Chr (([c0, c1] : List Int32).getD j 0) := fun j => by
    match j with
    | 0 => exact k0
    | 1 => exact k1
    | n + 2 => exact chr0
  have e0 := here_iff (ix := 0) hcp hU hk (by decide) (by simp)
  have e1 := here_iff (ix := 1) hcp hU hk (by decide) (by simp)
  have eN : endF ([c0, c1] : List Int32) cp 2 < 0 := end_out (by simp)
  have rc0 : rchF ([c0, c1] : List Int32) 0 = 1 := rfl
  by_cases a0 : hereF ([c0, c1] : List Int32) 0 cp uA uB = 0
  · have z0 : mtF ([c0, c1] : List Int32) 0 cp uA uB = 0 := mt_0 a0
    have b0 := e0.mpr a0
    by_cases g0 : hiB c0 = 0
    · rw [fnd_a b0 (by simp) g0]
      have rc1 : rchF ([c0, c1] : List Int32) 1 = 1 := rch_a g0
      by_cases a1 : hereF ([c0, c1] : List Int32) 1 cp uA uB = 0
      · have z1 : mtF ([c0, c1] : List Int32) 1 cp uA uB = 0 := mt_0 a1
        have b1 := e1.mpr a1
        by_cases g1 : hiB c1 = 0
        · rw [fnd_a b1 (by simp) g1]
          rw [fnd_0 eN (by simp)]; exact (or_0 z0 z1 rfl).symm
        · rw [fnd_d b1 (by simp) g1 (by simp)]
          rw [fnd_0 eN (by simp)]; exact (or_0 z0 z1 rfl).symm
      · have m1 : mtF ([c0, c1] : List Int32) 1 cp uA uB = 1 := mt_1 a1 rc1
        rw [fnd_1 (fun w => a1 (e1.mp w))]; exact (or_2 z0 (by rw [m1]; decide)).symm
    · by_cases l1 : loB c1 = 0
      · rw [fnd_b b0 (by simp) g0 (by simp) l1]
        have rc1 : rchF ([c0, c1] : List Int32) 1 = 1 := rch_b g0 l1
        by_cases a1 : hereF ([c0, c1] : List Int32) 1 cp uA uB = 0
        · have z1 : mtF ([c0, c1] : List Int32) 1 cp uA uB = 0 := mt_0 a1
          have b1 := e1.mpr a1
          by_cases g1 : hiB c1 = 0
          · rw [fnd_a b1 (by simp) g1]
            rw [fnd_0 eN (by simp)]; exact (or_0 z0 z1 rfl).symm
          · rw [fnd_d b1 (by simp) g1 (by simp)]
            rw [fnd_0 eN (by simp)]; exact (or_0 z0 z1 rfl).symm
        · have m1 : mtF ([c0, c1] : List Int32) 1 cp uA uB = 1 := mt_1 a1 rc1
          rw [fnd_1 (fun w => a1 (e1.mp w))]; exact (or_2 z0 (by rw [m1]; decide)).symm
      · rw [fnd_c b0 (by simp) g0 (by simp) l1]
        have z1 : mtF ([c0, c1] : List Int32) 1 cp uA uB = 0 := by
          by_cases w : hereF ([c0, c1] : List Int32) 1 cp uA uB = 0
          · exact mt_0 w
          · exact mt_r w (rch_c g0 l1)
        rw [fnd_0 eN (by simp)]; exact (or_0 z0 z1 rfl).symm
  · have m1 : mtF ([c0, c1] : List Int32) 0 cp uA uB = 1 := mt_1 a0 rc0
    rw [fnd_1 (fun w => a0 (e0.mp w))]; exact (or_1 (by rw [m1]; decide)).symm
theorem fg3 {cp c0 c1 c2 : Int32} : fG ([c0, c1, c2] : List Int32) cp 0 = (fnd ([c0, c1, c2] : List Int32) cp 0 (fnd ([c0, c1, c2] : List Int32) cp 1 (fnd ([c0, c1, c2] : List Int32) cp 2 (fnd ([c0, c1, c2] : List Int32) cp 3 (0 : Int32) (0 : Int32)) (0 : Int32)) (fnd ([c0, c1, c2] : List Int32) cp 3 (0 : Int32) (0 : Int32))) (fnd ([c0, c1, c2] : List Int32) cp 2 (fnd ([c0, c1, c2] : List Int32) cp 3 (0 : Int32) (0 : Int32)) (0 : Int32))) := by simp only [fG, List.length_cons, List.length_nil, Nat.sub_zero, Nat.zero_add, findG]
theorem pure3 {cp uA uB c0 c1 c2 : Int32} (hcp : Cpt cp) (hU : ¬ cp < 65536 → Pr cp uA uB) (k0 : Chr c0) (k1 : Chr c1) (k2 : Chr c2) : (fnd ([c0, c1, c2] : List Int32) cp 0 (fnd ([c0, c1, c2] : List Int32) cp 1 (fnd ([c0, c1, c2] : List Int32) cp 2 (fnd ([c0, c1, c2] : List Int32) cp 3 (0 : Int32) (0 : Int32)) (0 : Int32)) (fnd ([c0, c1, c2] : List Int32) cp 3 (0 : Int32) (0 : Int32))) (fnd ([c0, c1, c2] : List Int32) cp 2 (fnd ([c0, c1, c2] : List Int32) cp 3 (0 : Int32) (0 : Int32)) (0 : Int32))) = orF (mtF ([c0, c1, c2] : List Int32) 0 cp uA uB) (mtF ([c0, c1, c2] : List Int32) 1 cp uA uB) (mtF ([c0, c1, c2] : List Int32) 2 cp uA uB) := by
  have hk : ∀ j, Chr (([c0, c1, c2] : List Int32).getD j 0) := fun j => by
    match j with
    | 0 => exact k0
    | 1 => exact k1
    | 2 => exact k2
    | n + 3 => exact chr0
  have e0 := here_iff (ix := 0) hcp hU hk (by decide) (by simp)
  have e1 := here_iff (ix := 1) hcp hU hk (by decide) (by simp)
  have e2 := here_iff (ix := 2) hcp hU hk (by decide) (by simp)
  have eN : endF ([c0, c1, c2] : List Int32) cp 3 < 0 := end_out (by simp)
  have rc0 : rchF ([c0, c1, c2] : List Int32) 0 = 1 := rfl
  by_cases a0 : hereF ([c0, c1, c2] : List Int32) 0 cp uA uB = 0
  · have z0 : mtF ([c0, c1, c2] : List Int32) 0 cp uA uB = 0 := mt_0 a0
    have b0 := e0.mpr a0
    by_cases g0 : hiB c0 = 0
    · rw [fnd_a b0 (by simp) g0]
      have rc1 : rchF ([c0, c1, c2] : List Int32) 1 = 1 := rch_a g0
      by_cases a1 : hereF ([c0, c1, c2] : List Int32) 1 cp uA uB = 0
      · have z1 : mtF ([c0, c1, c2] : List Int32) 1 cp uA uB = 0 := mt_0 a1
        have b1 := e1.mpr a1
        by_cases g1 : hiB c1 = 0
        · rw [fnd_a b1 (by simp) g1]
          have rc2 : rchF ([c0, c1, c2] : List Int32) 2 = 1 := rch_a g1
          by_cases a2 : hereF ([c0, c1, c2] : List Int32) 2 cp uA uB = 0
          · have z2 : mtF ([c0, c1, c2] : List Int32) 2 cp uA uB = 0 := mt_0 a2
            have b2 := e2.mpr a2
            by_cases g2 : hiB c2 = 0
            · rw [fnd_a b2 (by simp) g2]
              rw [fnd_0 eN (by simp)]; exact (or_0 z0 z1 z2).symm
            · rw [fnd_d b2 (by simp) g2 (by simp)]
              rw [fnd_0 eN (by simp)]; exact (or_0 z0 z1 z2).symm
          · have m1 : mtF ([c0, c1, c2] : List Int32) 2 cp uA uB = 1 := mt_1 a2 rc2
            rw [fnd_1 (fun w => a2 (e2.mp w))]; exact (or_3 z0 z1 (by rw [m1]; decide)).symm
        · by_cases l2 : loB c2 = 0
          · rw [fnd_b b1 (by simp) g1 (by simp) l2]
            have rc2 : rchF ([c0, c1, c2] : List Int32) 2 = 1 := rch_b g1 l2
            by_cases a2 : hereF ([c0, c1, c2] : List Int32) 2 cp uA uB = 0
            · have z2 : mtF ([c0, c1, c2] : List Int32) 2 cp uA uB = 0 := mt_0 a2
              have b2 := e2.mpr a2
              by_cases g2 : hiB c2 = 0
              · rw [fnd_a b2 (by simp) g2]
                rw [fnd_0 eN (by simp)]; exact (or_0 z0 z1 z2).symm
              · rw [fnd_d b2 (by simp) g2 (by simp)]
                rw [fnd_0 eN (by simp)]; exact (or_0 z0 z1 z2).symm
            · have m1 : mtF ([c0, c1, c2] : List Int32) 2 cp uA uB = 1 := mt_1 a2 rc2
              rw [fnd_1 (fun w => a2 (e2.mp w))]; exact (or_3 z0 z1 (by rw [m1]; decide)).symm
          · rw [fnd_c b1 (by simp) g1 (by simp) l2]
            have z2 : mtF ([c0, c1, c2] : List Int32) 2 cp uA uB = 0 := by
              by_cases w : hereF ([c0, c1, c2] : List Int32) 2 cp uA uB = 0
              · exact mt_0 w
              · exact mt_r w (rch_c g1 l2)
            rw [fnd_0 eN (by simp)]; exact (or_0 z0 z1 z2).symm
      · have m1 : mtF ([c0, c1, c2] : List Int32) 1 cp uA uB = 1 := mt_1 a1 rc1
        rw [fnd_1 (fun w => a1 (e1.mp w))]; exact (or_2 z0 (by rw [m1]; decide)).symm
    · by_cases l1 : loB c1 = 0
      · rw [fnd_b b0 (by simp) g0 (by simp) l1]
        have rc1 : rchF ([c0, c1, c2] : List Int32) 1 = 1 := rch_b g0 l1
        by_cases a1 : hereF ([c0, c1, c2] : List Int32) 1 cp uA uB = 0
        · have z1 : mtF ([c0, c1, c2] : List Int32) 1 cp uA uB = 0 := mt_0 a1
          have b1 := e1.mpr a1
          by_cases g1 : hiB c1 = 0
          · rw [fnd_a b1 (by simp) g1]
            have rc2 : rchF ([c0, c1, c2] : List Int32) 2 = 1 := rch_a g1
            by_cases a2 : hereF ([c0, c1, c2] : List Int32) 2 cp uA uB = 0
            · have z2 : mtF ([c0, c1, c2] : List Int32) 2 cp uA uB = 0 := mt_0 a2
              have b2 := e2.mpr a2
              by_cases g2 : hiB c2 = 0
              · rw [fnd_a b2 (by simp) g2]
                rw [fnd_0 eN (by simp)]; exact (or_0 z0 z1 z2).symm
              · rw [fnd_d b2 (by simp) g2 (by simp)]
                rw [fnd_0 eN (by simp)]; exact (or_0 z0 z1 z2).symm
            · have m1 : mtF ([c0, c1, c2] : List Int32) 2 cp uA uB = 1 := mt_1 a2 rc2
              rw [fnd_1 (fun w => a2 (e2.mp w))]; exact (or_3 z0 z1 (by rw [m1]; decide)).symm
          · by_cases l2 : loB c2 = 0
            · rw [fnd_b b1 (by simp) g1 (by simp) l2]
              have rc2 : rchF ([c0, c1, c2] : List Int32) 2 = 1 := rch_b g1 l2
              by_cases a2 : hereF ([c0, c1, c2] : List Int32) 2 cp uA uB = 0
              · have z2 : mtF ([c0, c1, c2] : List Int32) 2 cp uA uB = 0 := mt_0 a2
                have b2 := e2.mpr a2
                by_cases g2 : hiB c2 = 0
                · rw [fnd_a b2 (by simp) g2]
                  rw [fnd_0 eN (by simp)]; exact (or_0 z0 z1 z2).symm
                · rw [fnd_d b2 (by simp) g2 (by simp)]
                  rw [fnd_0 eN (by simp)]; exact (or_0 z0 z1 z2).symm
              · have m1 : mtF ([c0, c1, c2] : List Int32) 2 cp uA uB = 1 := mt_1 a2 rc2
                rw [fnd_1 (fun w => a2 (e2.mp w))]; exact (or_3 z0 z1 (by rw [m1]; decide)).symm
            · rw [fnd_c b1 (by simp) g1 (by simp) l2]
              have z2 : mtF ([c0, c1, c2] : List Int32) 2 cp uA uB = 0 := by
                by_cases w : hereF ([c0, c1, c2] : List Int32) 2 cp uA uB = 0
                · exact mt_0 w
                · exact mt_r w (rch_c g1 l2)
              rw [fnd_0 eN (by simp)]; exact (or_0 z0 z1 z2).symm
        · have m1 : mtF ([c0, c1, c2] : List Int32) 1 cp uA uB = 1 := mt_1 a1 rc1
          rw [fnd_1 (fun w => a1 (e1.mp w))]; exact (or_2 z0 (by rw [m1]; decide)).symm
      · rw [fnd_c b0 (by simp) g0 (by simp) l1]
        have z1 : mtF ([c0, c1, c2] : List Int32) 1 cp uA uB = 0 := by
          by_cases w : hereF ([c0, c1, c2] : List Int32) 1 cp uA uB = 0
          · exact mt_0 w
          · exact mt_r w (rch_c g0 l1)
        have rc2 : rchF ([c0, c1, c2] : List Int32) 2 = 1 := rch_a (hilo l1)
        by_cases a2 : hereF ([c0, c1, c2] : List Int32) 2 cp uA uB = 0
        · have z2 : mtF ([c0, c1, c2] : List Int32) 2 cp uA uB = 0 := mt_0 a2
          have b2 := e2.mpr a2
          by_cases g2 : hiB c2 = 0
          · rw [fnd_a b2 (by simp) g2]
            rw [fnd_0 eN (by simp)]; exact (or_0 z0 z1 z2).symm
          · rw [fnd_d b2 (by simp) g2 (by simp)]
            rw [fnd_0 eN (by simp)]; exact (or_0 z0 z1 z2).symm
        · have m1 : mtF ([c0, c1, c2] : List Int32) 2 cp uA uB = 1 := mt_1 a2 rc2
          rw [fnd_1 (fun w => a2 (e2.mp w))]; exact (or_3 z0 z1 (by rw [m1]; decide)).symm
  · have m1 : mtF ([c0, c1, c2] : List Int32) 0 cp uA uB = 1 := mt_1 a0 rc0
    rw [fnd_1 (fun w => a0 (e0.mp w))]; exact (or_1 (by rw [m1]; decide)).symm
theorem drawC (H : Hy a0 Z cst dce nona sfv) (x0 uA uB x1 : Int32) (kA : Chr uA) (kB : Chr uB) :
    Con lch Z consts_1 Y68 method_3_code 5 (some .char) (rm 0 0 0 0) #[(.int x0), (.int uA), (.int uB), (.int x1)] [] []
      (fun rv L1 M1 => rv = some (.int (drw x0 uA uB x1)) ∧ L1 = [] ∧ M1 = []) := by
  refine Con.ob #[vi x0, vi uA, vi uB, vi x1, us] (plainFor_of_name pn2) ?_
  intro p e s m below meth c T0 h0 C S0
  refine C.i1 S0 (D68 0 rfl) rfl <| C.if_ne S0 (D68 1 rfl) 10 4 (by decide) (by decide) rfl (fun hc1 => ?_) fun hc1 => ?_
  · refine C.i1 S0 (D68 2 rfl) rfl <| C.k1 S0 (D68 3 rfl) 1 rfl <| C.icmp_ne S0 (D68 4 rfl) 21 15 (by decide) (by decide) rfl (fun hc2 => ?_) fun hc2 => ?_
    · refine C.i1 S0 (D68 5 rfl) rfl <| C.k1 S0 (D68 6 rfl) 2 rfl <| C.icmp_ne S0 (D68 7 rfl) 40 26 (by decide) (by decide) rfl (fun hc3 => ?_) fun hc3 => ?_
      · refine C.i1 S0 (D68 8 rfl) rfl <| C.ldcInt S0 (W H 7 rfl) (D68 9 rfl) 43 rfl <| C.iand S0 (D68 10 rfl) 44 rfl (x1 &&& (65535 : Int32)) rfl <| C.i2c S0 (D68 11 rfl) 45 rfl ((x1 &&& (65535 : Int32)).toUInt32.toUInt16.toUInt32.toInt32) rfl <| C.istore S0 (D68 12 rfl) 47 rfl #[vi x0, vi uA, vi uB, vi x1, vi ((x1 &&& (65535 : Int32)).toUInt32.toUInt16.toUInt32.toInt32)] rfl <| C.i2 S0 (D68 13 rfl) rfl ?_
        exact C.rN S0 (D68 14 rfl) ((x1 &&& (65535 : Int32)).toUInt32.toUInt16.toUInt32.toInt32) (char_nar (i2c_chr _)) [] ⟨by rw [drw, if_neg hc1, if_neg hc2, if_neg hc3], rfl, rfl⟩
      · refine C.ldcInt S0 (W H 317 rfl) (D68 15 rfl) 28 rfl <| C.i1 S0 (D68 16 rfl) rfl <| C.k3 S0 (D68 17 rfl) 2047 rfl <| C.iand S0 (D68 18 rfl) 33 rfl (x1 &&& (2047 : Int32)) rfl <| C.ior S0 (D68 19 rfl) 34 rfl ((55296 : Int32) ||| (x1 &&& (2047 : Int32))) rfl <| C.i2c S0 (D68 20 rfl) 35 rfl (((55296 : Int32) ||| (x1 &&& (2047 : Int32))).toUInt32.toUInt16.toUInt32.toInt32) rfl <| C.istore S0 (D68 21 rfl) 37 rfl #[vi x0, vi uA, vi uB, vi x1, vi (((55296 : Int32) ||| (x1 &&& (2047 : Int32))).toUInt32.toUInt16.toUInt32.toInt32)] rfl <| C.g S0 (D68 22 rfl) 47 rfl <| C.i2 S0 (D68 13 rfl) rfl ?_
        exact C.rN S0 (D68 14 rfl) (((55296 : Int32) ||| (x1 &&& (2047 : Int32))).toUInt32.toUInt16.toUInt32.toInt32) (char_nar (i2c_chr _)) [] ⟨by rw [drw, if_neg hc1, if_neg hc2, if_pos hc3], rfl, rfl⟩
    · refine C.i1 S0 (D68 23 rfl) rfl <| C.istore S0 (D68 24 rfl) 18 rfl #[vi x0, vi uA, vi uB, vi x1, vi uB] rfl <| C.g S0 (D68 25 rfl) 47 rfl <| C.i2 S0 (D68 13 rfl) rfl ?_
      exact C.rN S0 (D68 14 rfl) uB (char_nar kB) [] ⟨by rw [drw, if_neg hc1, if_pos hc2], rfl, rfl⟩
  · refine C.i1 S0 (D68 26 rfl) rfl <| C.istore S0 (D68 27 rfl) 7 rfl #[vi x0, vi uA, vi uB, vi x1, vi uA] rfl <| C.g S0 (D68 28 rfl) 47 rfl <| C.i2 S0 (D68 13 rfl) rfl ?_
    exact C.rN S0 (D68 14 rfl) uA (char_nar kA) [] ⟨by rw [drw, if_pos hc1], rfl, rfl⟩
theorem coderOf (H : Hy a0 Z cst dce nona sfv) (b : Addr) (vs : List Value) (n : Int32) (hn : vs.length.toInt32 = n) :
    Con lch Z consts_1 Y11 jdk_52_method_15_code 2 (some .byte) (rm 0 0 0 0) #[(.ref b), (.int n)] [(b, Ary Z .byte (vs))] []
      (fun rv L1 M1 => rv = some (.int 0) ∧ L1 = [(b, Ary Z .byte (vs))] ∧ M1 = []) := by
  refine Con.ob #[vr b, vi n] (plainFor_of_name pn3) ?_
  intro p e s m below meth c T0 h0 C S0
  refine C.i1 S0 (D11 0 rfl) rfl <| C.a1 S0 (D11 1 rfl) rfl rfl <| C.arraylength S0 (S0.at 0 rfl) (D11 2 rfl) 3 rfl n hn <| C.isub S0 (D11 3 rfl) 4 rfl (0 : Int32) (Int32.sub_self _) <| C.k2 S0 (D11 4 rfl) 31 rfl <| C.iushr S0 (D11 5 rfl) 7 rfl (0 : Int32) (by decide) <| C.i2b S0 (D11 6 rfl) 8 rfl (0 : Int32) (by decide) ?_
  exact C.rN S0 (D11 7 rfl) 0 (by decide) [0] ⟨rfl, rfl, rfl⟩
set_option maxRecDepth 65536 in
set_option maxHeartbeats 40000000 in
theorem compLoop (H : Hy a0 Z cst dce nona sfv) {a b : Addr} {cs : List Int32} (hl : Lat cs) {p : Program} {e : Env} {R : Room} {s : State} {m : MethodId} {args : Array Value} {below : List Frame} {meth : Method} {c : Code} {h0 : Heap} {L0 : HL} {Q : Outcome → State → Prop}
    (C : Cx p s m meth c Z consts_1 "java/lang/StringUTF16" jdk_52_method_21_code 7 (some .int) "compress") (fin : ∀ T o, St p lch e R s m args below meth c Z consts_1 h0 L0 T [(a, Ary Z .char (chars cs)), (b, Ary Z .byte (part cs cs.length))] [] 0 0 → Go p e below Q (T.setTop (mkF m 44 #[.val (.ref a), .val (.int (Int32.ofNat cs.length)), .val (.ref b), .val (.int (Int32.ofNat cs.length)), .val (.int (Int32.ofNat cs.length)), .val (.int (Int32.ofNat cs.length)), o] []))) :
    ∀ (r k : Nat), k + r = cs.length → ∀ (T : State) (o : Slot), One o → St p lch e R s m args below meth c Z consts_1 h0 L0 T [(a, Ary Z .char (chars cs)), (b, Ary Z .byte (part cs k))] [] 0 0 → Go p e below Q (T.setTop (mkF m 3 #[.val (.ref a), .val (.int (Int32.ofNat k)), .val (.ref b), .val (.int (Int32.ofNat k)), .val (.int (Int32.ofNat cs.length)), .val (.int (Int32.ofNat k)), o] [])) := by
  intro r
  induction r with
  | zero =>
    intro k hk T o ho S
    have hk' : k = cs.length := by omega
    subst hk'
    refine C.iload S (D12 2 rfl) 5 rfl rfl ?_
    refine C.iload S (D12 3 rfl) 7 rfl rfl ?_
    refine C.icmp_ge S (D12 4 rfl) 44 10 (by decide) (by decide) rfl (fun _ => ?_) fun q => absurd q (by rw [ofn_lt hl.len hl.len]; omega)
    exact fin T o S
  | succ r ih =>
    intro k hk T o ho S
    have hlt : k < cs.length := by omega
    have hk31 : k < 2 ^ 31 := Nat.lt_trans hlt hl.len
    obtain ⟨ch, hch⟩ := nth_some hlt
    have hcv : nth (chars cs) k = some (.int ch) := by rw [chars, nth_map, hch]; rfl
    obtain ⟨hc0, hc1⟩ := hl.1 ch (nth_mem hch)
    refine C.iload S (D12 2 rfl) 5 rfl rfl ?_
    refine C.iload S (D12 3 rfl) 7 rfl rfl ?_
    refine C.icmp_ge S (D12 4 rfl) 44 10 (by decide) (by decide) rfl (fun q => absurd ((ofn_lt hk31 hl.len).mpr hlt) q) fun _ => ?_
    refine C.aloadN S (D12 5 rfl) 11 rfl rfl rfl ?_
    refine C.iloadN S (D12 6 rfl) 12 rfl rfl ?_
    refine C.caload S (S.at 0 rfl) (D12 7 rfl) 13 rfl (ofn_nn hk31) k (ofn_nat hk31) hcv ?_
    refine C.istore S (D12 8 rfl) 15 rfl #[.val (.ref a), .val (.int (Int32.ofNat k)), .val (.ref b), .val (.int (Int32.ofNat k)), .val (.int (Int32.ofNat cs.length)), .val (.int (Int32.ofNat k)), .val (.int ch)] (store7 ho) ?_
    refine C.iload S (D12 9 rfl) 17 rfl rfl ?_
    refine C.sipush S (D12 10 rfl) 20 rfl (255 : Int32) rfl ?_
    refine C.icmp_le S (D12 11 rfl) 26 23 (by decide) (by decide) rfl (fun _ => ?_) fun q => absurd q hc1
    refine C.aloadN S (D12 14 rfl) 27 rfl rfl rfl ?_
    refine C.iloadN S (D12 15 rfl) 28 rfl rfl ?_
    refine C.iload S (D12 16 rfl) 30 rfl rfl ?_
    refine C.i2b S (D12 17 rfl) 31 rfl _ rfl ?_
    refine C.bastore S 1 rfl (D12 18 rfl) 32 rfl (ofn_nn hk31) k (ofn_nat hk31) (by rw [part_len cs (Nat.le_of_lt hlt)]; exact hlt) ch.toInt8.toInt32 (by simp [nar]) fun T2 S2 => ?_
    replace S2 := S2.as (L' := [(a, Ary Z .char (chars cs)), (b, Ary Z .byte (part cs (k + 1)))]) (M' := []) (cells' := 0) (slots' := 0) (by show [_, (b, Ary Z .byte (upd (part cs k) k _))] = _; rw [part_put hch]) rfl rfl rfl
    refine C.iinc S2 (D12 19 rfl) 35 rfl rfl (Int32.ofNat (k + 1)) (1 : Int32) rfl (ofn_succ k) #[.val (.ref a), .val (.int (Int32.ofNat (k + 1))), .val (.ref b), .val (.int (Int32.ofNat k)), .val (.int (Int32.ofNat cs.length)), .val (.int (Int32.ofNat k)), .val (.int ch)] rfl ?_
    refine C.iinc S2 (D12 20 rfl) 38 rfl rfl (Int32.ofNat (k + 1)) (1 : Int32) rfl (ofn_succ k) #[.val (.ref a), .val (.int (Int32.ofNat (k + 1))), .val (.ref b), .val (.int (Int32.ofNat (k + 1))), .val (.int (Int32.ofNat cs.length)), .val (.int (Int32.ofNat k)), .val (.int ch)] rfl ?_
    refine C.iinc S2 (D12 21 rfl) 41 rfl rfl (Int32.ofNat (k + 1)) (1 : Int32) rfl (ofn_succ k) #[.val (.ref a), .val (.int (Int32.ofNat (k + 1))), .val (.ref b), .val (.int (Int32.ofNat (k + 1))), .val (.int (Int32.ofNat cs.length)), .val (.int (Int32.ofNat (k + 1))), .val (.int ch)] rfl ?_
    refine C.goto S2 (D12 22 rfl) 3 (by decide) (by decide) ?_
    exact ih (k + 1) (by omega) T2 _ (One.val rfl) S2
set_option maxRecDepth 65536 in
set_option maxHeartbeats 40000000 in
theorem comp5 (H : Hy a0 Z cst dce nona sfv) (a b : Addr) (cs : List Int32) (hl : Lat cs) :
    Con lch Z consts_1 (⟨"java/lang/StringUTF16", "compress", "([CI[BII)I"⟩ : MethodName) jdk_52_method_21_code 7 (some .int) ({ frames := 0, cells := 0, slots := 0, locals := 0 } : Room) #[.ref a, .int (0 : Int32), .ref b, .int (0 : Int32), .int (Int32.ofNat cs.length)] [(a, Ary Z .char (chars cs)), (b, Ary Z .byte (List.replicate cs.length (.int 0)))] []
      (fun v L1 M1 => v = some (.int (Int32.ofNat cs.length)) ∧ L1 = [(a, Ary Z .char (chars cs)), (b, Ary Z .byte (encB cs))] ∧ M1 = []) := by
  refine Con.of_body (Ls := #[.val (.ref a), .val (.int (0 : Int32)), .val (.ref b), .val (.int (0 : Int32)), .val (.int (Int32.ofNat cs.length)), .unset, .unset]) (plainFor_of_name pn3) (fun m => by simp [entryFrame, mkF, argsToLocals, Value.category]) ?_
  intro p e s m below meth c T0 h0 C S0
  refine C.iconst S0 (D12 0 rfl) 1 rfl (0 : Int32) rfl ?_
  refine C.istore S0 (D12 1 rfl) 3 rfl #[.val (.ref a), .val (.int (0 : Int32)), .val (.ref b), .val (.int (0 : Int32)), .val (.int (Int32.ofNat cs.length)), .val (.int (0 : Int32)), .unset] rfl ?_
  have q := fun Q fin => compLoop (Q := Q) H hl C fin cs.length 0 (Nat.zero_add _) T0 .unset One.u (S0.as (by rw [part_zero]) rfl rfl rfl)
  rw [show Int32.ofNat 0 = (0 : Int32) from rfl] at q
  refine q _ (fun T o S => ?_)
  refine C.iload S (D12 23 rfl) 46 rfl rfl ?_
  exact C.retI S (D12 24 rfl) [0, 1] rfl (by decide) [] rfl fa0 ⟨rfl, by rw [part_all]; rfl, rfl⟩ rfl (leD rfl) (leD rfl)
theorem comp3 (H : Hy a0 Z cst dce nona sfv) (a : Addr) (cs : List Int32) (hl : Lat cs) (hcap : cs.length ≤ 4) :
    Con lch Z consts_1 Y13 jdk_52_method_16_code 6 (Option.some (Jvm.ClassFile.FieldType.array Jvm.ClassFile.FieldType.byte)) (rm 1 1 4 18) #[(.ref a), (.int 0), (.int (Int32.ofNat cs.length))] [(a, Ary Z .char (chars cs))] []
      (fun rv L1 M1 => ∃ (b : Addr), rv = some (.ref b) ∧ L1 = [(a, Ary Z .char (chars cs)), (b, Ary Z .byte (encB cs))] ∧ M1 = []) := by
  refine Con.ob #[vr a, vi 0, vi (Int32.ofNat cs.length), us, us, us] (plainFor_of_name pn3) ?_
  intro p e s m below meth c T0 h0 C S0
  refine C.i1 S0 (D13 0 rfl) rfl <| C.newarray (aty := .byte) S0 (W H 23 rfl) (D13 1 rfl) 3 rfl (ofn_nn hl.len) cs.length (ofn_nat hl.len) 4 hcap (by decide) (leD rfl) (leD rfl) fun T1 b1 S1 => C.astoreN S1 (D13 2 rfl) 4 rfl rfl #[vr a, vi 0, vi (Int32.ofNat cs.length), vr b1, us, us] rfl <| C.a1 S1 (D13 3 rfl) rfl rfl <| C.i1 S1 (D13 4 rfl) rfl <| C.a1 S1 (D13 5 rfl) rfl rfl <| C.k1 S1 (D13 6 rfl) 0 rfl <| C.i1 S1 (D13 7 rfl) rfl <| C.xs S1 (W H 322 rfl) (W H 323 rfl) (W H 320 rfl) (W H 324 rfl) (comp5 H a b1 cs hl) (D13 8 rfl) pd3 [(.ref a), (.int 0), (.ref b1), (.int 0), (.int (Int32.ofNat cs.length))] [] [0, 1] rl0 ?_
  rintro T2 _ _ _ ⟨rfl, rfl, rfl⟩ hro2 S2
  replace S2 := S2.nc (L' := [(a, Ary Z .char (chars cs)), (b1, Ary Z .byte (encB cs))]) rfl
  refine C.istore S2 (D13 9 rfl) 14 rfl #[vr a, vi 0, vi (Int32.ofNat cs.length), vr b1, vi (Int32.ofNat cs.length), us] rfl <| C.i2 S2 (D13 10 rfl) rfl <| C.i1 S2 (D13 11 rfl) rfl ?_
  refine C.icmp_eq S2 (D13 12 rfl) 57 20 (by decide) (by decide) rfl (fun hc3 => ?_) fun hc3 => absurd rfl hc3
  refine C.a1 S2 (D13 25 rfl) rfl rfl ?_
  exact C.rA S2 rfl rfl (D13 26 rfl) [0, 1] ⟨b1, rfl, rfl, rfl⟩
theorem strInitE5 (H : Hy a0 Z cst dce nona sfv) (t a : Addr) :
    Con lch Z consts_1 Y14 jdk_42_method_149_code 6 none (rm 1 4 8 12) #[(.ref t), (.ref a), (.int 0), (.int 0), .null] [(t, O0 Z (.int 0) .null), (a, Ary Z .char [])] []
      (fun rv L1 M1 => ∃ (b : Addr), rv = none ∧ L1 = [(t, O0 Z (.int 0) (.ref b)), (a, Ary Z .char [])] ∧ M1 = [(b, Ary Z .byte [])]) := by
  refine Con.ob #[vr t, vr a, vi 0, vi 0, .val .null, us] (plainFor_of_name pn0) ?_
  intro p e s m below meth c T0 h0 C S0
  refine C.a1 S0 (D14 0 rfl) rfl rfl <| C.objInit S0 (W H 19 rfl) (W H 20 rfl) (W H 21 rfl) (D14 1 rfl) 4 rfl rfl (leD rfl) (leD rfl) fun T1 S1 => C.i1 S1 (D14 2 rfl) rfl <| C.if_neF S1 (D14 3 rfl) 8 rfl (by decide) <| C.a1 S1 (D14 20 rfl) rfl rfl <| C.ldcStr S1 (W H 22 rfl) (wSA H.1) (by decide) (D14 21 rfl) 11 rfl [] ⟨by decide +kernel, by decide +kernel⟩ (0 : Int32) (by decide) (by decide +kernel) 0 (by decide) (by decide) (leD rfl) (leD rfl) fun T3 a3 b3 ra3 rb3 S3 => ?_
  replace S3 := S3.as (L' := [(t, O0 Z (.int 0) .null), (a, Ary Z .char [])]) (M' := [(a3, litObj Z b3), (b3, Ary Z .byte [])]) (cells' := 2) (slots' := 4) rfl rfl rfl rfl
  refine C.gf S3 (W H 28 rfl) (D14 22 rfl) (S3.fldM 0 rfl 1 rfl) 14 rfl fun T4 S4 => C.putfield S4 (host := "") (Or.inl (W H 28 rfl)) Via.refl (D14 23 rfl) 0 rfl 1 rfl (Or.inr ⟨(W H 24 rfl), rfl, rfl⟩) (W H 10 rfl) (ty := (.array .byte)) (by decide) rfl rfl 17 rfl fun T5 S5 => C.a1 S5 (D14 24 rfl) rfl rfl <| C.ldcStr S5 (W H 22 rfl) (wSA H.1) (by decide) (D14 25 rfl) 20 rfl [] ⟨by decide +kernel, by decide +kernel⟩ (0 : Int32) (by decide) (by decide +kernel) 0 (by decide) (by decide) (leD rfl) (leD rfl) fun T6 a6 b6 ra6 rb6 S6 => ?_
  replace S6 := S6.as (L' := [(t, O0 Z (.int 0) (.ref b3)), (a, Ary Z .char [])]) (M' := [(a3, litObj Z b3), (b3, Ary Z .byte []), (a6, litObj Z b6), (b6, Ary Z .byte [])]) (cells' := 4) (slots' := 8) rfl rfl rfl rfl
  refine C.gf S6 (W H 29 rfl) (D14 26 rfl) (S6.fldM 2 rfl 0 rfl) 23 rfl fun T7 S7 => C.putfieldN S7 (W H 29 rfl) Via.refl (D14 27 rfl) 0 rfl 0 rfl (Or.inr ⟨(W H 25 rfl), rfl, rfl⟩) (W H 10 rfl) (ty := .byte) (by decide) rfl rfl 26 rfl fun T8 S8 => ?_
  exact C.retV S8 (D14 28 rfl) [0, 1] rfl (by decide) [1] rfl (faS rb3 fa0) ⟨b3, rfl, rfl, rfl⟩ rfl (leD rfl) (leD rfl)
theorem strInitE (H : Hy a0 Z cst dce nona sfv) (t a : Addr) :
    Con lch Z consts_1 Y15 jdk_42_method_3_code 2 none (rm 2 4 8 29) #[(.ref t), (.ref a)] [(t, O0 Z (.int 0) .null), (a, Ary Z .char [])] []
      (fun rv L1 M1 => ∃ (b : Addr), rv = none ∧ L1 = [(t, O0 Z (.int 0) (.ref b)), (a, Ary Z .char [])] ∧ M1 = [(b, Ary Z .byte [])]) := by
  refine Con.ob #[vr t, vr a] (plainFor_of_name pn0) ?_
  intro p e s m below meth c T0 h0 C S0
  refine C.a1 S0 (D15 0 rfl) rfl rfl <| C.a1 S0 (D15 1 rfl) rfl rfl <| C.k1 S0 (D15 2 rfl) 0 rfl <| C.a1 S0 (D15 3 rfl) rfl rfl <| C.arraylength S0 (S0.at 1 rfl) (D15 4 rfl) 5 rfl (0 : Int32) rfl <| C.aconstNull S0 (D15 5 rfl) 6 rfl <| C.xi (a := t) S0 (W H 15 rfl) (W H 16 rfl) (W H 11 rfl) (W H 18 rfl) (strInitE5 H t a) (D15 6 rfl) pd7 [(.ref a), (.int 0), (.int 0), .null] [] [0, 1] rl0 ?_
  rintro T1 _ _ _ ⟨b2, rfl, rfl, rfl⟩ hro1 S1
  replace S1 := S1.as (L' := [(t, O0 Z (.int 0) (.ref b2)), (a, Ary Z .char [])]) (M' := [(b2, Ary Z .byte [])]) (cells' := 4) (slots' := 8) rfl rfl rfl rfl
  exact C.retV S1 (D15 7 rfl) [0, 1] rfl (by decide) [0] rfl (faS (hro1 _ (nth_mem (i := 0) rfl)) fa0) ⟨b2, rfl, rfl, rfl⟩ rfl (leD rfl) (leD rfl)
theorem strInit5 (H : Hy a0 Z cst dce nona sfv) (t a : Addr) (cs : List Int32) (hl : Lat cs) (hcap : cs.length ≤ 4) (hpos : 0 < cs.length) :
    Con lch Z consts_1 Y14 jdk_42_method_149_code 6 none (rm 2 1 4 35) #[(.ref t), (.ref a), (.int 0), (.int (Int32.ofNat cs.length)), .null] [(t, O0 Z (.int 0) .null), (a, Ary Z .char (chars cs))] []
      (fun rv L1 M1 => ∃ (b : Addr), rv = none ∧ L1 = [(t, O0 Z (.int 0) (.ref b)), (a, Ary Z .char (chars cs)), (b, Ary Z .byte (encB cs))] ∧ M1 = []) := by
  refine Con.ob #[vr t, vr a, vi 0, vi (Int32.ofNat cs.length), .val .null, us] (plainFor_of_name pn0) ?_
  intro p e s m below meth c T0 h0 C S0
  refine C.a1 S0 (D14 0 rfl) rfl rfl <| C.objInit S0 (W H 19 rfl) (W H 20 rfl) (W H 21 rfl) (D14 1 rfl) 4 rfl rfl (leD rfl) (leD rfl) fun T1 S1 => C.i1 S1 (D14 2 rfl) rfl ?_
  refine C.if_ne S1 (D14 3 rfl) 27 8 (by decide) (by decide) rfl (fun hc2 => ?_) fun hc2 => absurd hc2 (fun q => absurd ((ofn_inj (n := 0) hl.len (by decide)).mp q) (by omega))
  refine C.getstatic S1 (host := "") (Or.inl (W H 263 rfl)) Via.refl (D14 4 rfl) H.2.1 30 rfl fun T3 S3 => C.if_eq S3 (D14 5 rfl) 58 33 (by decide) (by decide) rfl (fun hc4 => absurd hc4 H.2.2.1) fun hc4 => C.a1 S3 (D14 6 rfl) rfl rfl <| C.i1 S3 (D14 7 rfl) rfl <| C.i1 S3 (D14 8 rfl) rfl <| C.xs S3 (W H 318 rfl) (W H 319 rfl) (W H 320 rfl) (W H 321 rfl) (comp3 H a cs hl hcap) (D14 9 rfl) pd4 [(.ref a), (.int 0), (.int (Int32.ofNat cs.length))] [] [1] rl0 ?_
  rintro T5 _ _ _ ⟨b6, rfl, rfl, rfl⟩ hro5 S5
  replace S5 := S5.nc (L' := [(t, O0 Z (.int 0) .null), (a, Ary Z .char (chars cs)), (b6, Ary Z .byte (encB cs))]) rfl
  refine C.astore S5 (D14 10 rfl) 41 rfl rfl #[vr t, vr a, vi 0, vi (Int32.ofNat cs.length), .val .null, vr b6] rfl <| C.a1 S5 (D14 11 rfl) rfl rfl <| C.a2 S5 (D14 12 rfl) rfl rfl <| C.i1 S5 (D14 13 rfl) rfl <| C.xs S5 (W H 344 rfl) (W H 345 rfl) (W H 320 rfl) (W H 346 rfl) (coderOf H b6 (encB cs) (Int32.ofNat cs.length) (by rw [encB, chars, List.length_map, lowB, List.length_map])) (D14 14 rfl) pd6 [(.ref b6), (.int (Int32.ofNat cs.length))] [(.ref t)] [2] rl0 ?_
  rintro T7 _ _ _ ⟨rfl, rfl, rfl⟩ hro7 S7
  replace S7 := S7.nc (L' := [(t, O0 Z (.int 0) .null), (a, Ary Z .char (chars cs)), (b6, Ary Z .byte ((encB cs)))]) rfl
  refine C.putfieldN S7 (W H 29 rfl) Via.refl (D14 15 rfl) 0 rfl 0 rfl (Or.inr ⟨(W H 25 rfl), rfl, rfl⟩) (W H 10 rfl) (ty := .byte) (by decide) rfl rfl 51 rfl fun T8 S8 => C.a1 S8 (D14 16 rfl) rfl rfl <| C.a2 S8 (D14 17 rfl) rfl rfl <| C.putfield S8 (host := "") (Or.inl (W H 28 rfl)) Via.refl (D14 18 rfl) 0 rfl 1 rfl (Or.inr ⟨(W H 24 rfl), rfl, rfl⟩) (W H 10 rfl) (ty := (.array .byte)) (by decide) rfl rfl 57 rfl fun T9 S9 => ?_
  exact C.rV S9 (D14 19 rfl) [0, 1, 2] ⟨b6, rfl, rfl, rfl⟩
theorem strInit (H : Hy a0 Z cst dce nona sfv) (t a : Addr) (cs : List Int32) (hl : Lat cs) (hcap : cs.length ≤ 4) (hpos : 0 < cs.length) :
    Con lch Z consts_1 Y15 jdk_42_method_3_code 2 none (rm 3 1 4 52) #[(.ref t), (.ref a)] [(t, O0 Z (.int 0) .null), (a, Ary Z .char (chars cs))] []
      (fun rv L1 M1 => ∃ (b : Addr), rv = none ∧ L1 = [(t, O0 Z (.int 0) (.ref b)), (a, Ary Z .char (chars cs)), (b, Ary Z .byte (encB cs))] ∧ M1 = []) := by
  refine Con.ob #[vr t, vr a] (plainFor_of_name pn0) ?_
  intro p e s m below meth c T0 h0 C S0
  refine C.a1 S0 (D15 0 rfl) rfl rfl <| C.a1 S0 (D15 1 rfl) rfl rfl <| C.k1 S0 (D15 2 rfl) 0 rfl <| C.a1 S0 (D15 3 rfl) rfl rfl <| C.arraylength S0 (S0.at 1 rfl) (D15 4 rfl) 5 rfl (Int32.ofNat cs.length) (by rw [chars, List.length_map]) <| C.aconstNull S0 (D15 5 rfl) 6 rfl <| C.xi (a := t) S0 (W H 15 rfl) (W H 16 rfl) (W H 11 rfl) (W H 18 rfl) (strInit5 H t a cs hl hcap hpos) (D15 6 rfl) pd7 [(.ref a), (.int 0), (.int (Int32.ofNat cs.length)), .null] [] [0, 1] rl0 ?_
  rintro T1 _ _ _ ⟨b2, rfl, rfl, rfl⟩ hro1 S1
  replace S1 := S1.nc (L' := [(t, O0 Z (.int 0) (.ref b2)), (a, Ary Z .char (chars cs)), (b2, Ary Z .byte (encB cs))]) rfl
  exact C.rV S1 (D15 7 rfl) [0, 1, 2] ⟨b2, rfl, rfl, rfl⟩
theorem layO3 {a0 : Array Value} {Z : State} (hw : Hw a0 Z) : LaidAll Z a0 "com/example/honest_errors/honesterrors/jsonschema/RegexAssembler" [("com/example/honest_errors/honesterrors/jsonschema/RegexAssembler", "op", "[B", (.array .byte)), ("com/example/honest_errors/honesterrors/jsonschema/RegexAssembler", "operands", "[[I", (.array (.array .int))), ("com/example/honest_errors/honesterrors/jsonschema/RegexAssembler", "leaves", "Ljava/util/List;", (.object "java/util/List")), ("com/example/honest_errors/honesterrors/jsonschema/RegexAssembler", "leafIndex", "Ljava/util/Map;", (.object "java/util/Map")), ("com/example/honest_errors/honesterrors/jsonschema/RegexAssembler", "rememberingLoops", "Ljava/util/List;", (.object "java/util/List")), ("com/example/honest_errors/honesterrors/jsonschema/RegexAssembler", "nodes", "I", .int), ("com/example/honest_errors/honesterrors/jsonschema/RegexAssembler", "registers", "I", .int)] := ⟨⟨Or.inl (W0 hw 38 rfl), by decide⟩, ⟨⟨Or.inl (W0 hw 43 rfl), by decide⟩, ⟨⟨Or.inr (W0 hw 69 rfl), by decide⟩, ⟨⟨Or.inr (W0 hw 87 rfl), by decide⟩, ⟨⟨Or.inr (W0 hw 89 rfl), by decide⟩, ⟨⟨Or.inl (W0 hw 100 rfl), by decide⟩, ⟨⟨Or.inl (W0 hw 202 rfl), by decide⟩, trivial⟩⟩⟩⟩⟩⟩⟩
theorem s237P (H : Hy a0 Z cst dce nona sfv) {p0 p1 p2 p3 p4 cp sp9 uA uB c0 c1 c2 n9 md : Int32} {a t b : Addr} {PA PT PB : Cell → Prop} (hcp : Cpt cp) (K : ∀ {T : State} {o bo g0 l1 hm l2 ga gb gc gd ge f : Addr}, St p lch e room_1 s m #[(.int p0), (.int p1), (.int p2), (.int p3), (.int p4)] below meth c Z consts_1 h0 [] T [(o, O3 Z (.ref bo) (.ref g0) (.ref l1) (.ref hm) (.ref l2) (.int 1) (.int 0)), (bo, Ary Z .byte ((.int 1) :: (.int 0) :: (.int 0) :: z13)), (g0, Ary Z (.array .int) [(.ref ga), (.ref gb), (.ref gc), (.ref gd), (.ref ge)]), (ga, Ary Z .int ((.int (-1)) :: (.int 0) :: (.int 0) :: z13)), (gb, Ary Z .int ((.int cp) :: (.int 0) :: (.int 0) :: z13)), (gc, Ary Z .int ((.int 0) :: (.int 0) :: (.int 0) :: z13)), (gd, Ary Z .int ((.int 0) :: (.int 0) :: (.int 0) :: z13)), (ge, Ary Z .int ((.int 0) :: (.int 0) :: (.int 0) :: z13)), (l1, O1 Z (.int 0) (.ref dce) (.int 0)), (l2, O1 Z (.int 0) (.ref dce) (.int 0)), (f, O4 Z (.int 0) (.int 0) (.int 0) (.int ((-1 : Int32) - cp)) (.int 1) (.int 1) (.int 1) (.int 1) (.int 0))] [(a, PA), (t, PT), (b, PB)] 40 400 → Go p e below (Qw room_1 s Z consts_1 h0 [] (fun rv L1 M1 => rv = some (.int 1) ∧ L1 = [] ∧ M1 = [])) (T.setTop (mkF m 273 #[.val (.int p0), .val (.int p1), .val (.int p2), .val (.int p3), .val (.int p4), .val (.int cp), .val (.int sp9), .val (.int uA), .val (.int uB), .val (.int c0), .val (.int c1), .val (.int c2), .val (.int n9), .val (.ref a), .val (.ref t), .val (.int 0), .val (.int md), .val (.ref o), .val (.ref f), .unset, .unset, .unset] [])))
    (C : Cx p s m meth c Z consts_1 x.cls code maxLocals ret x.name) (S0 : St p lch e room_1 s m #[(.int p0), (.int p1), (.int p2), (.int p3), (.int p4)] below meth c Z consts_1 h0 [] T0 [] [(a, PA), (t, PT), (b, PB)] 6 40) :
    Go p e below (Qw room_1 s Z consts_1 h0 [] (fun rv L1 M1 => rv = some (.int 1) ∧ L1 = [] ∧ M1 = [])) (T0.setTop (mkF m 237 #[vi p0, vi p1, vi p2, vi p3, vi p4, vi cp, vi sp9, vi uA, vi uB, vi c0, vi c1, vi c2, vi n9, vr a, vr t, vi 0, vi md, us, us, us, us, us] [])) := by
  refine C.new S0 (W H 30 rfl) (W H 31 rfl) (W H 32 rfl) at_237 (layO3 H.1) (by decide) 240 rfl (leD rfl) (leD rfl) fun T1 b1 S1 => C.dup S1 at_240 241 rfl rfl <| C.xi (a := b1) S1 (W H 33 rfl) (W H 34 rfl) (W H 32 rfl) (W H 35 rfl) (raInit H b1) at_241 pd18 [] [(.ref b1)] [0] rl0 ?_
  rintro T2 _ _ _ ⟨bo3, g4, l5, hm6, l7, ga8, gb9, gc10, gd11, ge12, rfl, rfl, rfl⟩ hro2 S2
  replace S2 := S2.nc (L' := [(b1, O3 Z (.ref bo3) (.ref g4) (.ref l5) (.ref hm6) (.ref l7) (.int 0) (.int 0)), (bo3, Ary Z .byte ((.int 0) :: (.int 0) :: (.int 0) :: z13)), (g4, Ary Z (.array .int) [(.ref ga8), (.ref gb9), (.ref gc10), (.ref gd11), (.ref ge12)]), (ga8, Ary Z .int ((.int 0) :: (.int 0) :: (.int 0) :: z13)), (gb9, Ary Z .int ((.int 0) :: (.int 0) :: (.int 0) :: z13)), (gc10, Ary Z .int ((.int 0) :: (.int 0) :: (.int 0) :: z13)), (gd11, Ary Z .int ((.int 0) :: (.int 0) :: (.int 0) :: z13)), (ge12, Ary Z .int ((.int 0) :: (.int 0) :: (.int 0) :: z13)), (l5, O1 Z (.int 0) (.ref dce) (.int 0)), (l7, O1 Z (.int 0) (.ref dce) (.int 0))]) rfl
  refine C.astore S2 at_244 246 rfl rfl #[vi p0, vi p1, vi p2, vi p3, vi p4, vi cp, vi sp9, vi uA, vi uB, vi c0, vi c1, vi c2, vi n9, vr a, vr t, vi 0, vi md, vr b1, us, us, us, us] rfl <| C.a2 S2 at_246 rfl rfl <| C.i2 S2 at_248 rfl <| C.xv S2 (S2.exa 0 rfl) (W H 90 rfl) (W H 91 rfl) (Or.inl ⟨_, (W H 93 rfl)⟩) (W H 93 rfl) (W H 92 rfl) (W H 32 rfl) (W H 94 rfl) (literalC H b1 bo3 g4 l5 hm6 l7 ga8 gb9 gc10 gd11 ge12 cp) at_250 pd21 [(.int cp)] [] [0, 1, 2, 3, 4, 5, 6, 7] rl0 ?_
  rintro T13 _ _ _ ⟨f14, rfl, rfl, rfl⟩ hro13 S13
  replace S13 := S13.nc (L' := [(b1, O3 Z (.ref bo3) (.ref g4) (.ref l5) (.ref hm6) (.ref l7) (.int 1) (.int 0)), (bo3, Ary Z .byte ((.int 1) :: (.int 0) :: (.int 0) :: z13)), (g4, Ary Z (.array .int) [(.ref ga8), (.ref gb9), (.ref gc10), (.ref gd11), (.ref ge12)]), (ga8, Ary Z .int ((.int (-1)) :: (.int 0) :: (.int 0) :: z13)), (gb9, Ary Z .int ((.int cp) :: (.int 0) :: (.int 0) :: z13)), (gc10, Ary Z .int ((.int 0) :: (.int 0) :: (.int 0) :: z13)), (gd11, Ary Z .int ((.int 0) :: (.int 0) :: (.int 0) :: z13)), (ge12, Ary Z .int ((.int 0) :: (.int 0) :: (.int 0) :: z13)), (l5, O1 Z (.int 0) (.ref dce) (.int 0)), (l7, O1 Z (.int 0) (.ref dce) (.int 0)), (f14, O4 Z (.int 0) (.int 0) (.int 0) (.int ((-1 : Int32) - cp)) (.int 1) (.int 1) (.int 1) (.int 1) (.int 0))]) rfl
  refine C.astore S13 at_253 255 rfl rfl #[vi p0, vi p1, vi p2, vi p3, vi p4, vi cp, vi sp9, vi uA, vi uB, vi c0, vi c1, vi c2, vi n9, vr a, vr t, vi 0, vi md, vr b1, vr f14, us, us, us] rfl <| C.i2 S13 at_255 rfl <| C.if_eqT S13 at_257 273 rfl (by decide) ?_
  exact K ((S13.pick [0, 1, 2, 3, 4, 5, 6, 7, 8, 9, 10] [0, 1, 2] rfl rfl (by decide)).weak (leD rfl) (leD rfl))
theorem s237R (H : Hy a0 Z cst dce nona sfv) {p0 p1 p2 p3 p4 cp sp9 uA uB c0 c1 c2 n9 md : Int32} {a t b : Addr} {PA PT PB : Cell → Prop} (hcp : Cpt cp) (hmd : md = 0 ∨ md = 1 ∨ md = 2) (K : ∀ {T : State} {kd md : Int32} {o bo g0 l1 hm l2 ga gb gc gd ge f : Addr}, (kd = 6 ∨ kd = 7 ∨ kd = 8) → St p lch e room_1 s m #[(.int p0), (.int p1), (.int p2), (.int p3), (.int p4)] below meth c Z consts_1 h0 [] T [(o, O3 Z (.ref bo) (.ref g0) (.ref l1) (.ref hm) (.ref l2) (.int 2) (.int 0)), (bo, Ary Z .byte ((.int 1) :: (.int kd) :: (.int 0) :: z13)), (g0, Ary Z (.array .int) [(.ref ga), (.ref gb), (.ref gc), (.ref gd), (.ref ge)]), (ga, Ary Z .int ((.int (-1)) :: (.int (-1)) :: (.int 0) :: z13)), (gb, Ary Z .int ((.int cp) :: (.int ((-1 : Int32) - cp)) :: (.int 0) :: z13)), (gc, Ary Z .int ((.int 0) :: (.int 1) :: (.int 0) :: z13)), (gd, Ary Z .int ((.int 0) :: (.int 1) :: (.int 0) :: z13)), (ge, Ary Z .int ((.int 0) :: (.int 0) :: (.int 0) :: z13)), (l1, O1 Z (.int 0) (.ref dce) (.int 0)), (l2, O1 Z (.int 0) (.ref dce) (.int 0)), (f, O4 Z (.int 1) (.int 2) (.int 2) (.int (-2147483648)) (.int 1) (.int 1) (.int 1) (.int 1) (.int 0))] [(a, PA), (t, PT), (b, PB)] 40 400 → Go p e below (Qw room_1 s Z consts_1 h0 [] (fun rv L1 M1 => rv = some (.int 1) ∧ L1 = [] ∧ M1 = [])) (T.setTop (mkF m 273 #[.val (.int p0), .val (.int p1), .val (.int p2), .val (.int p3), .val (.int p4), .val (.int cp), .val (.int sp9), .val (.int uA), .val (.int uB), .val (.int c0), .val (.int c1), .val (.int c2), .val (.int n9), .val (.ref a), .val (.ref t), .val (.int 1), .val (.int md), .val (.ref o), .val (.ref f), .unset, .unset, .unset] [])))
    (C : Cx p s m meth c Z consts_1 x.cls code maxLocals ret x.name) (S0 : St p lch e room_1 s m #[(.int p0), (.int p1), (.int p2), (.int p3), (.int p4)] below meth c Z consts_1 h0 [] T0 [] [(a, PA), (t, PT), (b, PB)] 6 40) :
    Go p e below (Qw room_1 s Z consts_1 h0 [] (fun rv L1 M1 => rv = some (.int 1) ∧ L1 = [] ∧ M1 = [])) (T0.setTop (mkF m 237 #[vi p0, vi p1, vi p2, vi p3, vi p4, vi cp, vi sp9, vi uA, vi uB, vi c0, vi c1, vi c2, vi n9, vr a, vr t, vi 1, vi md, us, us, us, us, us] [])) := by
  refine C.new S0 (W H 30 rfl) (W H 31 rfl) (W H 32 rfl) at_237 (layO3 H.1) (by decide) 240 rfl (leD rfl) (leD rfl) fun T1 b1 S1 => C.dup S1 at_240 241 rfl rfl <| C.xi (a := b1) S1 (W H 33 rfl) (W H 34 rfl) (W H 32 rfl) (W H 35 rfl) (raInit H b1) at_241 pd18 [] [(.ref b1)] [0] rl0 ?_
  rintro T2 _ _ _ ⟨bo3, g4, l5, hm6, l7, ga8, gb9, gc10, gd11, ge12, rfl, rfl, rfl⟩ hro2 S2
  replace S2 := S2.nc (L' := [(b1, O3 Z (.ref bo3) (.ref g4) (.ref l5) (.ref hm6) (.ref l7) (.int 0) (.int 0)), (bo3, Ary Z .byte ((.int 0) :: (.int 0) :: (.int 0) :: z13)), (g4, Ary Z (.array .int) [(.ref ga8), (.ref gb9), (.ref gc10), (.ref gd11), (.ref ge12)]), (ga8, Ary Z .int ((.int 0) :: (.int 0) :: (.int 0) :: z13)), (gb9, Ary Z .int ((.int 0) :: (.int 0) :: (.int 0) :: z13)), (gc10, Ary Z .int ((.int 0) :: (.int 0) :: (.int 0) :: z13)), (gd11, Ary Z .int ((.int 0) :: (.int 0) :: (.int 0) :: z13)), (ge12, Ary Z .int ((.int 0) :: (.int 0) :: (.int 0) :: z13)), (l5, O1 Z (.int 0) (.ref dce) (.int 0)), (l7, O1 Z (.int 0) (.ref dce) (.int 0))]) rfl
  refine C.astore S2 at_244 246 rfl rfl #[vi p0, vi p1, vi p2, vi p3, vi p4, vi cp, vi sp9, vi uA, vi uB, vi c0, vi c1, vi c2, vi n9, vr a, vr t, vi 1, vi md, vr b1, us, us, us, us] rfl <| C.a2 S2 at_246 rfl rfl <| C.i2 S2 at_248 rfl <| C.xv S2 (S2.exa 0 rfl) (W H 90 rfl) (W H 91 rfl) (Or.inl ⟨_, (W H 93 rfl)⟩) (W H 93 rfl) (W H 92 rfl) (W H 32 rfl) (W H 94 rfl) (literalC H b1 bo3 g4 l5 hm6 l7 ga8 gb9 gc10 gd11 ge12 cp) at_250 pd21 [(.int cp)] [] [0, 1, 2, 3, 4, 5, 6, 7] rl0 ?_
  rintro T13 _ _ _ ⟨f14, rfl, rfl, rfl⟩ hro13 S13
  replace S13 := S13.nc (L' := [(b1, O3 Z (.ref bo3) (.ref g4) (.ref l5) (.ref hm6) (.ref l7) (.int 1) (.int 0)), (bo3, Ary Z .byte ((.int 1) :: (.int 0) :: (.int 0) :: z13)), (g4, Ary Z (.array .int) [(.ref ga8), (.ref gb9), (.ref gc10), (.ref gd11), (.ref ge12)]), (ga8, Ary Z .int ((.int (-1)) :: (.int 0) :: (.int 0) :: z13)), (gb9, Ary Z .int ((.int cp) :: (.int 0) :: (.int 0) :: z13)), (gc10, Ary Z .int ((.int 0) :: (.int 0) :: (.int 0) :: z13)), (gd11, Ary Z .int ((.int 0) :: (.int 0) :: (.int 0) :: z13)), (ge12, Ary Z .int ((.int 0) :: (.int 0) :: (.int 0) :: z13)), (l5, O1 Z (.int 0) (.ref dce) (.int 0)), (l7, O1 Z (.int 0) (.ref dce) (.int 0)), (f14, O4 Z (.int 0) (.int 0) (.int 0) (.int ((-1 : Int32) - cp)) (.int 1) (.int 1) (.int 1) (.int 1) (.int 0))]) rfl
  refine C.astore S13 at_253 255 rfl rfl #[vi p0, vi p1, vi p2, vi p3, vi p4, vi cp, vi sp9, vi uA, vi uB, vi c0, vi c1, vi c2, vi n9, vr a, vr t, vi 1, vi md, vr b1, vr f14, us, us, us] rfl <| C.i2 S13 at_255 rfl <| C.if_eqF S13 at_257 260 rfl (by decide) <| C.a2 S13 at_260 rfl rfl <| C.a2 S13 at_262 rfl rfl <| C.k1 S13 at_264 1 rfl <| C.k1 S13 at_265 1 rfl <| C.i2 S13 at_266 rfl ?_
  rcases hmd with rfl | rfl | rfl
  · show Go p e below _ (T13.setTop (mkF m 268 #[vi p0, vi p1, vi p2, vi p3, vi p4, vi cp, vi sp9, vi uA, vi uB, vi c0, vi c1, vi c2, vi n9, vr a, vr t, vi 1, vi 0, vr b1, vr f14, us, us, us] [(.int 0), (.int 1), (.int 1), (.ref f14), (.ref b1)]))
    refine C.xv S13 (S13.exa 0 rfl) (W H 410 rfl) (W H 411 rfl) (Or.inl ⟨_, (W H 413 rfl)⟩) (W H 413 rfl) (W H 412 rfl) (W H 32 rfl) (W H 414 rfl) (quant0 H b1 bo3 g4 l5 hm6 l7 ga8 gb9 gc10 gd11 ge12 cp f14 hcp) at_268 pd22 [(.ref f14), (.int 1), (.int 1), (.int 0)] [] [0, 1, 2, 3, 4, 5, 6, 7, 10] rl0 ?_
    rintro T16 _ _ _ ⟨g17, rfl, rfl, rfl⟩ hro16 S16
    replace S16 := S16.nc (L' := [(b1, O3 Z (.ref bo3) (.ref g4) (.ref l5) (.ref hm6) (.ref l7) (.int 2) (.int 0)), (bo3, Ary Z .byte ((.int 1) :: (.int 6) :: (.int 0) :: z13)), (g4, Ary Z (.array .int) [(.ref ga8), (.ref gb9), (.ref gc10), (.ref gd11), (.ref ge12)]), (ga8, Ary Z .int ((.int (-1)) :: (.int (-1)) :: (.int 0) :: z13)), (gb9, Ary Z .int ((.int cp) :: (.int ((-1 : Int32) - cp)) :: (.int 0) :: z13)), (gc10, Ary Z .int ((.int 0) :: (.int 1) :: (.int 0) :: z13)), (gd11, Ary Z .int ((.int 0) :: (.int 1) :: (.int 0) :: z13)), (ge12, Ary Z .int ((.int 0) :: (.int 0) :: (.int 0) :: z13)), (l5, O1 Z (.int 0) (.ref dce) (.int 0)), (l7, O1 Z (.int 0) (.ref dce) (.int 0)), (f14, O4 Z (.int 0) (.int 0) (.int 0) (.int ((-1 : Int32) - cp)) (.int 1) (.int 1) (.int 1) (.int 1) (.int 0)), (g17, O4 Z (.int 1) (.int 2) (.int 2) (.int (-2147483648)) (.int 1) (.int 1) (.int 1) (.int 1) (.int 0))]) rfl
    refine C.astore S16 at_271 273 rfl rfl #[vi p0, vi p1, vi p2, vi p3, vi p4, vi cp, vi sp9, vi uA, vi uB, vi c0, vi c1, vi c2, vi n9, vr a, vr t, vi 1, vi 0, vr b1, vr g17, us, us, us] rfl ?_
    exact K (Or.inl rfl) ((S16.pick [0, 1, 2, 3, 4, 5, 6, 7, 8, 9, 11] [0, 1, 2] rfl rfl (by decide)).weak (leD rfl) (leD rfl))
  · show Go p e below _ (T13.setTop (mkF m 268 #[vi p0, vi p1, vi p2, vi p3, vi p4, vi cp, vi sp9, vi uA, vi uB, vi c0, vi c1, vi c2, vi n9, vr a, vr t, vi 1, vi 1, vr b1, vr f14, us, us, us] [(.int 1), (.int 1), (.int 1), (.ref f14), (.ref b1)]))
    refine C.xv S13 (S13.exa 0 rfl) (W H 410 rfl) (W H 411 rfl) (Or.inl ⟨_, (W H 413 rfl)⟩) (W H 413 rfl) (W H 412 rfl) (W H 32 rfl) (W H 414 rfl) (quant1 H b1 bo3 g4 l5 hm6 l7 ga8 gb9 gc10 gd11 ge12 cp f14 hcp) at_268 pd22 [(.ref f14), (.int 1), (.int 1), (.int 1)] [] [0, 1, 2, 3, 4, 5, 6, 7, 10] rl0 ?_
    rintro T18 _ _ _ ⟨g19, rfl, rfl, rfl⟩ hro18 S18
    replace S18 := S18.nc (L' := [(b1, O3 Z (.ref bo3) (.ref g4) (.ref l5) (.ref hm6) (.ref l7) (.int 2) (.int 0)), (bo3, Ary Z .byte ((.int 1) :: (.int 7) :: (.int 0) :: z13)), (g4, Ary Z (.array .int) [(.ref ga8), (.ref gb9), (.ref gc10), (.ref gd11), (.ref ge12)]), (ga8, Ary Z .int ((.int (-1)) :: (.int (-1)) :: (.int 0) :: z13)), (gb9, Ary Z .int ((.int cp) :: (.int ((-1 : Int32) - cp)) :: (.int 0) :: z13)), (gc10, Ary Z .int ((.int 0) :: (.int 1) :: (.int 0) :: z13)), (gd11, Ary Z .int ((.int 0) :: (.int 1) :: (.int 0) :: z13)), (ge12, Ary Z .int ((.int 0) :: (.int 0) :: (.int 0) :: z13)), (l5, O1 Z (.int 0) (.ref dce) (.int 0)), (l7, O1 Z (.int 0) (.ref dce) (.int 0)), (f14, O4 Z (.int 0) (.int 0) (.int 0) (.int ((-1 : Int32) - cp)) (.int 1) (.int 1) (.int 1) (.int 1) (.int 0)), (g19, O4 Z (.int 1) (.int 2) (.int 2) (.int (-2147483648)) (.int 1) (.int 1) (.int 1) (.int 1) (.int 0))]) rfl
    refine C.astore S18 at_271 273 rfl rfl #[vi p0, vi p1, vi p2, vi p3, vi p4, vi cp, vi sp9, vi uA, vi uB, vi c0, vi c1, vi c2, vi n9, vr a, vr t, vi 1, vi 1, vr b1, vr g19, us, us, us] rfl ?_
    exact K (Or.inr (Or.inl rfl)) ((S18.pick [0, 1, 2, 3, 4, 5, 6, 7, 8, 9, 11] [0, 1, 2] rfl rfl (by decide)).weak (leD rfl) (leD rfl))
  · show Go p e below _ (T13.setTop (mkF m 268 #[vi p0, vi p1, vi p2, vi p3, vi p4, vi cp, vi sp9, vi uA, vi uB, vi c0, vi c1, vi c2, vi n9, vr a, vr t, vi 1, vi 2, vr b1, vr f14, us, us, us] [(.int 2), (.int 1), (.int 1), (.ref f14), (.ref b1)]))
    refine C.xv S13 (S13.exa 0 rfl) (W H 410 rfl) (W H 411 rfl) (Or.inl ⟨_, (W H 413 rfl)⟩) (W H 413 rfl) (W H 412 rfl) (W H 32 rfl) (W H 414 rfl) (quant2 H b1 bo3 g4 l5 hm6 l7 ga8 gb9 gc10 gd11 ge12 cp f14 hcp) at_268 pd22 [(.ref f14), (.int 1), (.int 1), (.int 2)] [] [0, 1, 2, 3, 4, 5, 6, 7, 10] rl0 ?_
    rintro T20 _ _ _ ⟨g21, rfl, rfl, rfl⟩ hro20 S20
    replace S20 := S20.nc (L' := [(b1, O3 Z (.ref bo3) (.ref g4) (.ref l5) (.ref hm6) (.ref l7) (.int 2) (.int 0)), (bo3, Ary Z .byte ((.int 1) :: (.int 8) :: (.int 0) :: z13)), (g4, Ary Z (.array .int) [(.ref ga8), (.ref gb9), (.ref gc10), (.ref gd11), (.ref ge12)]), (ga8, Ary Z .int ((.int (-1)) :: (.int (-1)) :: (.int 0) :: z13)), (gb9, Ary Z .int ((.int cp) :: (.int ((-1 : Int32) - cp)) :: (.int 0) :: z13)), (gc10, Ary Z .int ((.int 0) :: (.int 1) :: (.int 0) :: z13)), (gd11, Ary Z .int ((.int 0) :: (.int 1) :: (.int 0) :: z13)), (ge12, Ary Z .int ((.int 0) :: (.int 0) :: (.int 0) :: z13)), (l5, O1 Z (.int 0) (.ref dce) (.int 0)), (l7, O1 Z (.int 0) (.ref dce) (.int 0)), (f14, O4 Z (.int 0) (.int 0) (.int 0) (.int ((-1 : Int32) - cp)) (.int 1) (.int 1) (.int 1) (.int 1) (.int 0)), (g21, O4 Z (.int 1) (.int 2) (.int 2) (.int (-2147483648)) (.int 1) (.int 1) (.int 1) (.int 1) (.int 0))]) rfl
    refine C.astore S20 at_271 273 rfl rfl #[vi p0, vi p1, vi p2, vi p3, vi p4, vi cp, vi sp9, vi uA, vi uB, vi c0, vi c1, vi c2, vi n9, vr a, vr t, vi 1, vi 2, vr b1, vr g21, us, us, us] rfl ?_
    exact K (Or.inr (Or.inr rfl)) ((S20.pick [0, 1, 2, 3, 4, 5, 6, 7, 8, 9, 11] [0, 1, 2] rfl rfl (by decide)).weak (leD rfl) (leD rfl))
theorem pd39 : parseMethodDescriptor "([CIIICC)Z" = some ⟨[(.array .char), .int, .int, .int, .char, .char], some .boolean⟩ := by decide +kernel
theorem s291_0 (H : Hy a0 Z cst dce nona sfv) {p0 p1 p2 p3 p4 cp sp9 uA uB c0 c1 c2 : Int32} {a t : Addr} {rp md : Int32} {o f pr : Addr} {r0 : Int32} (hcp : Cpt cp) (kA : Chr uA) (kB : Chr uB) (hU : ¬ cp < 65536 → Pr cp uA uB) (k0 : Chr c0) (k1 : Chr c1) (k2 : Chr c2) (hr : fG ([] : List Int32) cp 0 = r0)
    (C : Cx p s m meth c Z consts_1 x.cls code maxLocals ret x.name) (S0 : St p lch e room_1 s m #[(.int p0), (.int p1), (.int p2), (.int p3), (.int p4)] below meth c Z consts_1 h0 [] T0 [] [(a, Ary Z .char [])] 60 1500) :
    Go p e below (Qw room_1 s Z consts_1 h0 [] (fun rv L1 M1 => rv = some (.int 1) ∧ L1 = [] ∧ M1 = [])) (T0.setTop (mkF m 291 #[vi p0, vi p1, vi p2, vi p3, vi p4, vi cp, vi sp9, vi uA, vi uB, vi c0, vi c1, vi c2, vi 0, vr a, vr t, vi rp, vi md, vr o, vr f, vr pr, us, us] [(.int r0)])) := by
  refine C.istore S0 at_291 293 rfl #[vi p0, vi p1, vi p2, vi p3, vi p4, vi cp, vi sp9, vi uA, vi uB, vi c0, vi c1, vi c2, vi 0, vr a, vr t, vi rp, vi md, vr o, vr f, vr pr, vi r0, us] rfl <| C.a2 S0 at_293 rfl rfl <| C.i2 S0 at_295 rfl <| C.k1 S0 at_297 0 rfl <| C.i2 S0 at_298 rfl <| C.i2 S0 at_300 rfl <| C.i2 S0 at_302 rfl <| C.xs S0 (W H 314 rfl) (W H 315 rfl) (W H 5 rfl) (W H 316 rfl) (matO H a (0 : Int32) (0 : Int32) cp uA uB (by decide)) at_304 pd39 [(.ref a), (.int 0), (.int 0), (.int cp), (.int uA), (.int uB)] [] [] rl0 ?_
  rintro T1 _ _ _ ⟨rfl, rfl, rfl⟩ hro1 S1
  replace S1 := S1.n0
  refine C.if_neF S1 at_307 310 rfl (by decide) <| C.a2 S1 at_310 rfl rfl <| C.i2 S1 at_312 rfl <| C.k1 S1 at_314 1 rfl <| C.i2 S1 at_315 rfl <| C.i2 S1 at_317 rfl <| C.i2 S1 at_319 rfl <| C.xs S1 (W H 314 rfl) (W H 315 rfl) (W H 5 rfl) (W H 316 rfl) (matO H a (0 : Int32) (1 : Int32) cp uA uB (by decide)) at_321 pd39 [(.ref a), (.int 0), (.int 1), (.int cp), (.int uA), (.int uB)] [] [] rl0 ?_
  rintro T3 _ _ _ ⟨rfl, rfl, rfl⟩ hro3 S3
  replace S3 := S3.n0
  refine C.if_neF S3 at_324 327 rfl (by decide) <| C.a2 S3 at_327 rfl rfl <| C.i2 S3 at_329 rfl <| C.k1 S3 at_331 2 rfl <| C.i2 S3 at_332 rfl <| C.i2 S3 at_334 rfl <| C.i2 S3 at_336 rfl <| C.xs S3 (W H 314 rfl) (W H 315 rfl) (W H 5 rfl) (W H 316 rfl) (matO H a (0 : Int32) (2 : Int32) cp uA uB (by decide)) at_338 pd39 [(.ref a), (.int 0), (.int 2), (.int cp), (.int uA), (.int uB)] [] [] rl0 ?_
  rintro T5 _ _ _ ⟨rfl, rfl, rfl⟩ hro5 S5
  replace S5 := S5.n0
  refine C.if_eqT S5 at_341 348 rfl (by decide) <| C.k1 S5 at_348 0 rfl <| C.istore S5 at_349 351 rfl #[vi p0, vi p1, vi p2, vi p3, vi p4, vi cp, vi sp9, vi uA, vi uB, vi c0, vi c1, vi c2, vi 0, vr a, vr t, vi rp, vi md, vr o, vr f, vr pr, vi r0, vi 0] rfl <| C.i2 S5 at_351 rfl <| C.i2 S5 at_353 rfl <| C.icmp_ne S5 at_355 362 358 (by decide) (by decide) rfl (fun hc7 => absurd (hr.symm.trans (fg0.trans ((pure0 hcp hU).trans (or_0 rfl rfl rfl)))) hc7) fun hc7 => C.k1 S5 at_358 1 rfl <| C.g S5 at_359 363 rfl ?_
  exact C.rN S5 at_363 1 (by decide) [] ⟨rfl, rfl, rfl⟩
theorem pd40 : parseMethodDescriptor "(Lcom/example/honest_errors/honesterrors/jsonschema/RegexAssembler$Fragment;ZI)Lcom/example/honest_errors/honesterrors/jsonschema/RegexProgram;" = some ⟨[(.object "com/example/honest_errors/honesterrors/jsonschema/RegexAssembler$Fragment"), .boolean, .int], some (.object "com/example/honest_errors/honesterrors/jsonschema/RegexProgram")⟩ := by decide +kernel
theorem pd41 : parseMethodDescriptor "(Ljava/lang/String;)Z" = some ⟨[(.object "java/lang/String")], some .boolean⟩ := by decide +kernel
theorem s273_0P (H : Hy a0 Z cst dce nona sfv) {p0 p1 p2 p3 p4 cp sp9 uA uB c0 c1 c2 : Int32} {a t b : Addr} {PT PB : Cell → Prop} {rp md : Int32} {o bo g0 l1 hm l2 ga gb gc gd ge f : Addr} (hcp : Cpt cp) (kA : Chr uA) (kB : Chr uB) (hU : ¬ cp < 65536 → Pr cp uA uB) (k0 : Chr c0) (k1 : Chr c1) (k2 : Chr c2) (hT : Tx lch Z t b PT PB ([] : List Int32))
    (C : Cx p s m meth c Z consts_1 x.cls code maxLocals ret x.name) (S0 : St p lch e room_1 s m #[(.int p0), (.int p1), (.int p2), (.int p3), (.int p4)] below meth c Z consts_1 h0 [] T0 [(o, O3 Z (.ref bo) (.ref g0) (.ref l1) (.ref hm) (.ref l2) (.int 1) (.int 0)), (bo, Ary Z .byte ((.int 1) :: (.int 0) :: (.int 0) :: z13)), (g0, Ary Z (.array .int) [(.ref ga), (.ref gb), (.ref gc), (.ref gd), (.ref ge)]), (ga, Ary Z .int ((.int (-1)) :: (.int 0) :: (.int 0) :: z13)), (gb, Ary Z .int ((.int cp) :: (.int 0) :: (.int 0) :: z13)), (gc, Ary Z .int ((.int 0) :: (.int 0) :: (.int 0) :: z13)), (gd, Ary Z .int ((.int 0) :: (.int 0) :: (.int 0) :: z13)), (ge, Ary Z .int ((.int 0) :: (.int 0) :: (.int 0) :: z13)), (l1, O1 Z (.int 0) (.ref dce) (.int 0)), (l2, O1 Z (.int 0) (.ref dce) (.int 0)), (f, O4 Z (.int 0) (.int 0) (.int 0) (.int ((-1 : Int32) - cp)) (.int 1) (.int 1) (.int 1) (.int 1) (.int 0))] [(a, Ary Z .char []), (t, PT), (b, PB)] 40 400) :
    Go p e below (Qw room_1 s Z consts_1 h0 [] (fun rv L1 M1 => rv = some (.int 1) ∧ L1 = [] ∧ M1 = [])) (T0.setTop (mkF m 273 #[vi p0, vi p1, vi p2, vi p3, vi p4, vi cp, vi sp9, vi uA, vi uB, vi c0, vi c1, vi c2, vi 0, vr a, vr t, vi rp, vi md, vr o, vr f, us, us, us] [])) := by
  refine C.a2 S0 at_273 rfl rfl <| C.a2 S0 at_275 rfl rfl <| C.k1 S0 at_277 0 rfl <| C.k1 S0 at_278 0 rfl <| C.xv S0 (S0.exa 0 rfl) (W H 137 rfl) (W H 138 rfl) (Or.inl ⟨_, (W H 140 rfl)⟩) (W H 140 rfl) (W H 139 rfl) (W H 32 rfl) (W H 141 rfl) (finP H o bo g0 l1 hm l2 ga gb gc gd ge cp f) at_279 pd40 [(.ref f), (.int 0), (.int 0)] [] [0, 1, 2, 3, 4, 5, 6, 7, 10, 8, 9] rl0 ?_
  rintro T1 _ _ _ ⟨pr2, po3, pn4, pa5, pb6, pcc7, pd8, plv9, rfl, rfl, rfl⟩ hro1 S1
  replace S1 := S1.nc (L' := [(o, O3 Z (.ref bo) (.ref g0) (.ref l1) (.ref hm) (.ref l2) (.int 2) (.int 0)), (bo, Ary Z .byte ((.int 1) :: (.int 21) :: (.int 0) :: z13)), (g0, Ary Z (.array .int) [(.ref ga), (.ref gb), (.ref gc), (.ref gd), (.ref ge)]), (ga, Ary Z .int ((.int 1) :: (.int (-1)) :: (.int 0) :: z13)), (gb, Ary Z .int ((.int cp) :: (.int 0) :: (.int 0) :: z13)), (gc, Ary Z .int ((.int 0) :: (.int 0) :: (.int 0) :: z13)), (gd, Ary Z .int ((.int 0) :: (.int 0) :: (.int 0) :: z13)), (ge, Ary Z .int ((.int 0) :: (.int 0) :: (.int 0) :: z13)), (l1, O1 Z (.int 0) (.ref dce) (.int 0)), (l2, O1 Z (.int 0) (.ref dce) (.int 0)), (f, O4 Z (.int 0) (.int (-1)) (.int (-1)) (.int ((-1 : Int32) - cp)) (.int 1) (.int 1) (.int 1) (.int 1) (.int 0)), (pr2, O5 Z (.ref po3) (.ref pn4) (.ref pa5) (.ref pb6) (.ref pcc7) (.ref pd8) (.ref plv9) (.int 0) .null (.int 0) (.int 0) (.int 0)), (po3, Ary Z .byte [(.int 1), (.int 21)]), (pn4, Ary Z .int [(.int 1), (.int (-1))]), (pa5, Ary Z .int [(.int cp), (.int 0)]), (pb6, Ary Z .int [(.int 0), (.int 0)]), (pcc7, Ary Z .int [(.int 0), (.int 0)])]) rfl
  refine C.astore S1 at_282 284 rfl rfl #[vi p0, vi p1, vi p2, vi p3, vi p4, vi cp, vi sp9, vi uA, vi uB, vi c0, vi c1, vi c2, vi 0, vr a, vr t, vi rp, vi md, vr o, vr f, vr pr2, us, us] rfl <| C.a2 S1 at_284 rfl rfl <| C.a2 S1 at_286 rfl rfl <| C.xv S1 (S1.exa 11 rfl) (W H 231 rfl) (W H 232 rfl) (Or.inl ⟨_, (W H 234 rfl)⟩) (W H 234 rfl) (W H 233 rfl) (W H 184 rfl) (W H 235 rfl) (prFP H pr2 t b PT PB ([] : List Int32) cp po3 pn4 pa5 pb6 pcc7 pd8 plv9 (fG ([] : List Int32) cp 0) hT (leD rfl) hcp rfl) at_288 pd41 [(.ref t)] [] [] (rlN (S1.atM 1 rfl) (rlN (S1.atM 2 rfl) (rlN (S1.at 11 rfl) (rlN (S1.at 12 rfl) (rlN (S1.at 13 rfl) (rlN (S1.at 14 rfl) (rlN (S1.at 15 rfl) (rlN (S1.at 16 rfl) rl0)))))))) ?_
  rintro T10 _ _ _ ⟨rfl, rfl, rfl⟩ hro10 S10
  replace S10 := S10.n0
  exact s291_0 H hcp kA kB hU k0 k1 k2 rfl C ((S10.pick [] [0] rfl rfl (by decide)).weak (leD rfl) (leD rfl))
theorem s273_0R (H : Hy a0 Z cst dce nona sfv) {p0 p1 p2 p3 p4 cp sp9 uA uB c0 c1 c2 : Int32} {a t b : Addr} {PT PB : Cell → Prop} {rp md : Int32} {o bo g0 l1 hm l2 ga gb gc gd ge f : Addr} {kd : Int32} (hcp : Cpt cp) (kA : Chr uA) (kB : Chr uB) (hU : ¬ cp < 65536 → Pr cp uA uB) (k0 : Chr c0) (k1 : Chr c1) (k2 : Chr c2) (hT : Tx lch Z t b PT PB ([] : List Int32)) (hk : kd = 6 ∨ kd = 7 ∨ kd = 8)
    (C : Cx p s m meth c Z consts_1 x.cls code maxLocals ret x.name) (S0 : St p lch e room_1 s m #[(.int p0), (.int p1), (.int p2), (.int p3), (.int p4)] below meth c Z consts_1 h0 [] T0 [(o, O3 Z (.ref bo) (.ref g0) (.ref l1) (.ref hm) (.ref l2) (.int 2) (.int 0)), (bo, Ary Z .byte ((.int 1) :: (.int kd) :: (.int 0) :: z13)), (g0, Ary Z (.array .int) [(.ref ga), (.ref gb), (.ref gc), (.ref gd), (.ref ge)]), (ga, Ary Z .int ((.int (-1)) :: (.int (-1)) :: (.int 0) :: z13)), (gb, Ary Z .int ((.int cp) :: (.int ((-1 : Int32) - cp)) :: (.int 0) :: z13)), (gc, Ary Z .int ((.int 0) :: (.int 1) :: (.int 0) :: z13)), (gd, Ary Z .int ((.int 0) :: (.int 1) :: (.int 0) :: z13)), (ge, Ary Z .int ((.int 0) :: (.int 0) :: (.int 0) :: z13)), (l1, O1 Z (.int 0) (.ref dce) (.int 0)), (l2, O1 Z (.int 0) (.ref dce) (.int 0)), (f, O4 Z (.int 1) (.int 2) (.int 2) (.int (-2147483648)) (.int 1) (.int 1) (.int 1) (.int 1) (.int 0))] [(a, Ary Z .char []), (t, PT), (b, PB)] 40 400) :
    Go p e below (Qw room_1 s Z consts_1 h0 [] (fun rv L1 M1 => rv = some (.int 1) ∧ L1 = [] ∧ M1 = [])) (T0.setTop (mkF m 273 #[vi p0, vi p1, vi p2, vi p3, vi p4, vi cp, vi sp9, vi uA, vi uB, vi c0, vi c1, vi c2, vi 0, vr a, vr t, vi rp, vi md, vr o, vr f, us, us, us] [])) := by
  refine C.a2 S0 at_273 rfl rfl <| C.a2 S0 at_275 rfl rfl <| C.k1 S0 at_277 0 rfl <| C.k1 S0 at_278 0 rfl <| C.xv S0 (S0.exa 0 rfl) (W H 137 rfl) (W H 138 rfl) (Or.inl ⟨_, (W H 140 rfl)⟩) (W H 140 rfl) (W H 139 rfl) (W H 32 rfl) (W H 141 rfl) (finR H o bo g0 l1 hm l2 ga gb gc gd ge cp kd f hk) at_279 pd40 [(.ref f), (.int 0), (.int 0)] [] [0, 1, 2, 3, 4, 5, 6, 7, 10, 8, 9] rl0 ?_
  rintro T1 _ _ _ ⟨pr2, po3, pn4, pa5, pb6, pcc7, pd8, plv9, rfl, rfl, rfl⟩ hro1 S1
  replace S1 := S1.nc (L' := [(o, O3 Z (.ref bo) (.ref g0) (.ref l1) (.ref hm) (.ref l2) (.int 3) (.int 0)), (bo, Ary Z .byte ((.int 1) :: (.int kd) :: (.int 21) :: z13)), (g0, Ary Z (.array .int) [(.ref ga), (.ref gb), (.ref gc), (.ref gd), (.ref ge)]), (ga, Ary Z .int ((.int (-1)) :: (.int 2) :: (.int (-1)) :: z13)), (gb, Ary Z .int ((.int cp) :: (.int ((-1 : Int32) - cp)) :: (.int 0) :: z13)), (gc, Ary Z .int ((.int 0) :: (.int 1) :: (.int 0) :: z13)), (gd, Ary Z .int ((.int 0) :: (.int 1) :: (.int 0) :: z13)), (ge, Ary Z .int ((.int 0) :: (.int 0) :: (.int 0) :: z13)), (l1, O1 Z (.int 0) (.ref dce) (.int 0)), (l2, O1 Z (.int 0) (.ref dce) (.int 0)), (f, O4 Z (.int 1) (.int (-1)) (.int (-1)) (.int (-2147483648)) (.int 1) (.int 1) (.int 1) (.int 1) (.int 0)), (pr2, O5 Z (.ref po3) (.ref pn4) (.ref pa5) (.ref pb6) (.ref pcc7) (.ref pd8) (.ref plv9) (.int 1) .null (.int 0) (.int 0) (.int 0)), (po3, Ary Z .byte [(.int 1), (.int kd), (.int 21)]), (pn4, Ary Z .int [(.int (-1)), (.int 2), (.int (-1))]), (pa5, Ary Z .int [(.int cp), (.int ((-1 : Int32) - cp)), (.int 0)]), (pb6, Ary Z .int [(.int 0), (.int 1), (.int 0)]), (pcc7, Ary Z .int [(.int 0), (.int 1), (.int 0)])]) rfl
  refine C.astore S1 at_282 284 rfl rfl #[vi p0, vi p1, vi p2, vi p3, vi p4, vi cp, vi sp9, vi uA, vi uB, vi c0, vi c1, vi c2, vi 0, vr a, vr t, vi rp, vi md, vr o, vr f, vr pr2, us, us] rfl <| C.a2 S1 at_284 rfl rfl <| C.a2 S1 at_286 rfl rfl <| C.xv S1 (S1.exa 11 rfl) (W H 231 rfl) (W H 232 rfl) (Or.inl ⟨_, (W H 234 rfl)⟩) (W H 234 rfl) (W H 233 rfl) (W H 184 rfl) (W H 235 rfl) (prFR H pr2 t b PT PB ([] : List Int32) cp po3 pn4 pa5 pb6 pcc7 pd8 plv9 kd (fG ([] : List Int32) cp 0) hT (leD rfl) hcp hk rfl) at_288 pd41 [(.ref t)] [] [] (rlN (S1.atM 1 rfl) (rlN (S1.atM 2 rfl) (rlN (S1.at 11 rfl) (rlN (S1.at 12 rfl) (rlN (S1.at 13 rfl) (rlN (S1.at 14 rfl) (rlN (S1.at 15 rfl) (rlN (S1.at 16 rfl) rl0)))))))) ?_
  rintro T10 _ _ _ ⟨rfl, rfl, rfl⟩ hro10 S10
  replace S10 := S10.n0
  exact s291_0 H hcp kA kB hU k0 k1 k2 rfl C ((S10.pick [] [0] rfl rfl (by decide)).weak (leD rfl) (leD rfl))
theorem s209_0 (H : Hy a0 Z cst dce nona sfv) {p0 p1 p2 p3 p4 cp sp9 uA uB c0 c1 c2 : Int32} {a t b : Addr} {PT PB : Cell → Prop} (hcp : Cpt cp) (kA : Chr uA) (kB : Chr uB) (hU : ¬ cp < 65536 → Pr cp uA uB) (k0 : Chr c0) (k1 : Chr c1) (k2 : Chr c2) (hT : Tx lch Z t b PT PB ([] : List Int32))
    (C : Cx p s m meth c Z consts_1 x.cls code maxLocals ret x.name) (S0 : St p lch e room_1 s m #[(.int p0), (.int p1), (.int p2), (.int p3), (.int p4)] below meth c Z consts_1 h0 [] T0 [] [(a, Ary Z .char []), (t, PT), (b, PB)] 6 40) :
    Go p e below (Qw room_1 s Z consts_1 h0 [] (fun rv L1 M1 => rv = some (.int 1) ∧ L1 = [] ∧ M1 = [])) (T0.setTop (mkF m 209 #[vi p0, vi p1, vi p2, vi p3, vi p4, vi cp, vi sp9, vi uA, vi uB, vi c0, vi c1, vi c2, vi 0, vr a, us, us, us, us, us, us, us, us] [(.ref t)])) := by
  refine C.astore S0 at_209 211 rfl rfl #[vi p0, vi p1, vi p2, vi p3, vi p4, vi cp, vi sp9, vi uA, vi uB, vi c0, vi c1, vi c2, vi 0, vr a, vr t, us, us, us, us, us, us, us] rfl <| C.i1 S0 at_211 rfl <| C.k2 S0 at_212 8 rfl <| C.ishr S0 at_214 215 rfl (p1 >>> ((8 : Int32) &&& 31)) rfl <| C.k1 S0 at_215 1 rfl <| C.iand S0 at_216 217 rfl ((p1 >>> ((8 : Int32) &&& 31)) &&& (1 : Int32)) rfl <| C.if_eq S0 at_217 224 220 (by decide) (by decide) rfl (fun hc1 => ?_) fun hc1 => ?_
  · refine C.k1 S0 at_224 0 rfl <| C.istore S0 at_225 227 rfl #[vi p0, vi p1, vi p2, vi p3, vi p4, vi cp, vi sp9, vi uA, vi uB, vi c0, vi c1, vi c2, vi 0, vr a, vr t, vi 0, us, us, us, us, us, us] rfl <| C.i1 S0 at_227 rfl <| C.k2 S0 at_228 9 rfl <| C.iushr S0 at_230 231 rfl (XT.ushr p1 (9 : Int32)) rfl <| C.k1 S0 at_231 3 rfl <| C.iand S0 at_232 233 rfl ((XT.ushr p1 (9 : Int32)) &&& (3 : Int32)) rfl <| C.k1 S0 at_233 3 rfl <| C.irem S0 at_234 235 rfl (by decide) (((XT.ushr p1 (9 : Int32)) &&& (3 : Int32)) % (3 : Int32)) rfl <| C.istore S0 at_235 237 rfl #[vi p0, vi p1, vi p2, vi p3, vi p4, vi cp, vi sp9, vi uA, vi uB, vi c0, vi c1, vi c2, vi 0, vr a, vr t, vi 0, vi (((XT.ushr p1 (9 : Int32)) &&& (3 : Int32)) % (3 : Int32)), us, us, us, us, us] rfl ?_
    exact s237P H hcp (fun S => s273_0P H hcp kA kB hU k0 k1 k2 hT C S) C S0
  · refine C.k1 S0 at_220 1 rfl <| C.g S0 at_221 225 rfl <| C.istore S0 at_225 227 rfl #[vi p0, vi p1, vi p2, vi p3, vi p4, vi cp, vi sp9, vi uA, vi uB, vi c0, vi c1, vi c2, vi 0, vr a, vr t, vi 1, us, us, us, us, us, us] rfl <| C.i1 S0 at_227 rfl <| C.k2 S0 at_228 9 rfl <| C.iushr S0 at_230 231 rfl (XT.ushr p1 (9 : Int32)) rfl <| C.k1 S0 at_231 3 rfl <| C.iand S0 at_232 233 rfl ((XT.ushr p1 (9 : Int32)) &&& (3 : Int32)) rfl <| C.k1 S0 at_233 3 rfl <| C.irem S0 at_234 235 rfl (by decide) (((XT.ushr p1 (9 : Int32)) &&& (3 : Int32)) % (3 : Int32)) rfl <| C.istore S0 at_235 237 rfl #[vi p0, vi p1, vi p2, vi p3, vi p4, vi cp, vi sp9, vi uA, vi uB, vi c0, vi c1, vi c2, vi 0, vr a, vr t, vi 1, vi (((XT.ushr p1 (9 : Int32)) &&& (3 : Int32)) % (3 : Int32)), us, us, us, us, us] rfl ?_
    exact s237R H hcp (own_mod3 _) (fun hk S => s273_0R H hcp kA kB hU k0 k1 k2 hT hk C S) C S0
theorem layO0 {a0 : Array Value} {Z : State} (hw : Hw a0 Z) : LaidAll Z a0 "java/lang/String" [("java/lang/String", "coder", "B", .byte), ("java/lang/String", "value", "[B", (.array .byte))] := ⟨⟨Or.inr (W0 hw 25 rfl), by decide⟩, ⟨⟨Or.inr (W0 hw 24 rfl), by decide⟩, trivial⟩⟩
theorem pd42 : parseMethodDescriptor "([C)V" = some ⟨[(.array .char)], none⟩ := by decide +kernel
theorem s124_0 (H : Hy a0 Z cst dce nona sfv) {p0 p1 p2 p3 p4 cp sp9 uA uB c0 c1 c2 : Int32} (hcp : Cpt cp) (kA : Chr uA) (kB : Chr uB) (hU : ¬ cp < 65536 → Pr cp uA uB) (k0 : Chr c0) (k1 : Chr c1) (k2 : Chr c2)
    (C : Cx p s m meth c Z consts_1 x.cls code maxLocals ret x.name) (S0 : St p lch e room_1 s m #[(.int p0), (.int p1), (.int p2), (.int p3), (.int p4)] below meth c Z consts_1 h0 [] T0 [] [] 0 0) :
    Go p e below (Qw room_1 s Z consts_1 h0 [] (fun rv L1 M1 => rv = some (.int 1) ∧ L1 = [] ∧ M1 = [])) (T0.setTop (mkF m 124 #[vi p0, vi p1, vi p2, vi p3, vi p4, vi cp, vi sp9, vi uA, vi uB, vi c0, vi c1, vi c2, vi 0, us, us, us, us, us, us, us, us, us] [])) := by
  refine C.i2 S0 at_124 rfl <| C.if_neF S0 at_126 129 rfl (by decide) <| C.k1 S0 at_129 0 rfl <| C.newarray (aty := .char) S0 (W H 8 rfl) at_130 132 rfl (by decide) 0 rfl 0 (leD rfl) (by decide) (leD rfl) (leD rfl) fun T2 b2 S2 => C.astore S2 at_132 134 rfl rfl #[vi p0, vi p1, vi p2, vi p3, vi p4, vi cp, vi sp9, vi uA, vi uB, vi c0, vi c1, vi c2, vi 0, vr b2, us, us, us, us, us, us, us, us] rfl <| C.g S2 at_134 200 rfl <| C.new S2 (W H 9 rfl) (W H 10 rfl) (W H 11 rfl) at_200 (layO0 H.1) (by decide) 203 rfl (leD rfl) (leD rfl) fun T3 b3 S3 => C.dup S3 at_203 204 rfl rfl <| C.a2 S3 at_204 rfl rfl <| C.xi (a := b3) S3 (W H 12 rfl) (W H 13 rfl) (W H 11 rfl) (W H 14 rfl) (strInitE H b3 b2) at_206 pd42 [(.ref b2)] [(.ref b3)] [1, 0] rl0 ?_
  rintro T4 _ _ _ ⟨b5, rfl, rfl, rfl⟩ hro4 S4
  replace S4 := S4.as (L' := [(b2, Ary Z .char []), (b3, O0 Z (.int 0) (.ref b5))]) (M' := [(b5, Ary Z .byte [])]) (cells' := 6) (slots' := 12) rfl rfl rfl rfl
  exact s209_0 H hcp kA kB hU k0 k1 k2 (txL (cs := ([] : List Int32)) H (leD rfl) (fun j => by match j with | n + 0 => exact chr0) (fun j => by match j with | n + 0 => exact lat0)) C ((((S4.frz [1] rfl (by decide) 0 rfl (by decide)).frz [] rfl (by decide) 0 rfl (by decide)).pick [] [1, 2, 0] rfl rfl (by decide)).weak (leD rfl) (leD rfl))
theorem s291_1 (H : Hy a0 Z cst dce nona sfv) {p0 p1 p2 p3 p4 cp sp9 uA uB c0 c1 c2 : Int32} {a t : Addr} {rp md : Int32} {o f pr : Addr} {r0 : Int32} (hcp : Cpt cp) (kA : Chr uA) (kB : Chr uB) (hU : ¬ cp < 65536 → Pr cp uA uB) (k0 : Chr c0) (k1 : Chr c1) (k2 : Chr c2) (hr : fG ([c0] : List Int32) cp 0 = r0)
    (C : Cx p s m meth c Z consts_1 x.cls code maxLocals ret x.name) (S0 : St p lch e room_1 s m #[(.int p0), (.int p1), (.int p2), (.int p3), (.int p4)] below meth c Z consts_1 h0 [] T0 [] [(a, Ary Z .char [(.int c0)])] 60 1500) :
    Go p e below (Qw room_1 s Z consts_1 h0 [] (fun rv L1 M1 => rv = some (.int 1) ∧ L1 = [] ∧ M1 = [])) (T0.setTop (mkF m 291 #[vi p0, vi p1, vi p2, vi p3, vi p4, vi cp, vi sp9, vi uA, vi uB, vi c0, vi c1, vi c2, vi 1, vr a, vr t, vi rp, vi md, vr o, vr f, vr pr, us, us] [(.int r0)])) := by
  refine C.istore S0 at_291 293 rfl #[vi p0, vi p1, vi p2, vi p3, vi p4, vi cp, vi sp9, vi uA, vi uB, vi c0, vi c1, vi c2, vi 1, vr a, vr t, vi rp, vi md, vr o, vr f, vr pr, vi r0, us] rfl <| C.a2 S0 at_293 rfl rfl <| C.i2 S0 at_295 rfl <| C.k1 S0 at_297 0 rfl <| C.i2 S0 at_298 rfl <| C.i2 S0 at_300 rfl <| C.i2 S0 at_302 rfl <| C.xs S0 (W H 314 rfl) (W H 315 rfl) (W H 5 rfl) (W H 316 rfl) (matZ H a [c0] cp uA uB (leD rfl) (leD rfl)) at_304 pd39 [(.ref a), (.int 1), (.int 0), (.int cp), (.int uA), (.int uB)] [] [] (rlN (S0.atM 0 rfl) rl0) ?_
  rintro T1 _ _ _ ⟨rfl, rfl, rfl⟩ hro1 S1
  replace S1 := S1.n0
  refine C.if_ne S1 at_307 344 310 (by decide) (by decide) rfl (fun hc2 => ?_) fun hc2 => ?_
  · refine C.k1 S1 at_344 1 rfl <| C.g S1 at_345 349 rfl <| C.istore S1 at_349 351 rfl #[vi p0, vi p1, vi p2, vi p3, vi p4, vi cp, vi sp9, vi uA, vi uB, vi c0, vi c1, vi c2, vi 1, vr a, vr t, vi rp, vi md, vr o, vr f, vr pr, vi r0, vi 1] rfl <| C.i2 S1 at_351 rfl <| C.i2 S1 at_353 rfl <| C.icmp_ne S1 at_355 362 358 (by decide) (by decide) rfl (fun hc3 => absurd (hr.symm.trans (fg1.trans ((pure1 hcp hU k0).trans (or_1 hc2)))) hc3) fun hc3 => C.k1 S1 at_358 1 rfl <| C.g S1 at_359 363 rfl ?_
    exact C.rN S1 at_363 1 (by decide) [] ⟨rfl, rfl, rfl⟩
  · refine C.a2 S1 at_310 rfl rfl <| C.i2 S1 at_312 rfl <| C.k1 S1 at_314 1 rfl <| C.i2 S1 at_315 rfl <| C.i2 S1 at_317 rfl <| C.i2 S1 at_319 rfl <| C.xs S1 (W H 314 rfl) (W H 315 rfl) (W H 5 rfl) (W H 316 rfl) (matO H a (1 : Int32) (1 : Int32) cp uA uB (by decide)) at_321 pd39 [(.ref a), (.int 1), (.int 1), (.int cp), (.int uA), (.int uB)] [] [] rl0 ?_
    rintro T4 _ _ _ ⟨rfl, rfl, rfl⟩ hro4 S4
    replace S4 := S4.n0
    refine C.if_neF S4 at_324 327 rfl (by decide) <| C.a2 S4 at_327 rfl rfl <| C.i2 S4 at_329 rfl <| C.k1 S4 at_331 2 rfl <| C.i2 S4 at_332 rfl <| C.i2 S4 at_334 rfl <| C.i2 S4 at_336 rfl <| C.xs S4 (W H 314 rfl) (W H 315 rfl) (W H 5 rfl) (W H 316 rfl) (matO H a (1 : Int32) (2 : Int32) cp uA uB (by decide)) at_338 pd39 [(.ref a), (.int 1), (.int 2), (.int cp), (.int uA), (.int uB)] [] [] rl0 ?_
    rintro T6 _ _ _ ⟨rfl, rfl, rfl⟩ hro6 S6
    replace S6 := S6.n0
    refine C.if_eqT S6 at_341 348 rfl (by decide) <| C.k1 S6 at_348 0 rfl <| C.istore S6 at_349 351 rfl #[vi p0, vi p1, vi p2, vi p3, vi p4, vi cp, vi sp9, vi uA, vi uB, vi c0, vi c1, vi c2, vi 1, vr a, vr t, vi rp, vi md, vr o, vr f, vr pr, vi r0, vi 0] rfl <| C.i2 S6 at_351 rfl <| C.i2 S6 at_353 rfl <| C.icmp_ne S6 at_355 362 358 (by decide) (by decide) rfl (fun hc8 => absurd (hr.symm.trans (fg1.trans ((pure1 hcp hU k0).trans (or_0 hc2 rfl rfl)))) hc8) fun hc8 => C.k1 S6 at_358 1 rfl <| C.g S6 at_359 363 rfl ?_
    exact C.rN S6 at_363 1 (by decide) [] ⟨rfl, rfl, rfl⟩
theorem s273_1P (H : Hy a0 Z cst dce nona sfv) {p0 p1 p2 p3 p4 cp sp9 uA uB c0 c1 c2 : Int32} {a t b : Addr} {PT PB : Cell → Prop} {rp md : Int32} {o bo g0 l1 hm l2 ga gb gc gd ge f : Addr} (hcp : Cpt cp) (kA : Chr uA) (kB : Chr uB) (hU : ¬ cp < 65536 → Pr cp uA uB) (k0 : Chr c0) (k1 : Chr c1) (k2 : Chr c2) (hT : Tx lch Z t b PT PB ([c0] : List Int32))
    (C : Cx p s m meth c Z consts_1 x.cls code maxLocals ret x.name) (S0 : St p lch e room_1 s m #[(.int p0), (.int p1), (.int p2), (.int p3), (.int p4)] below meth c Z consts_1 h0 [] T0 [(o, O3 Z (.ref bo) (.ref g0) (.ref l1) (.ref hm) (.ref l2) (.int 1) (.int 0)), (bo, Ary Z .byte ((.int 1) :: (.int 0) :: (.int 0) :: z13)), (g0, Ary Z (.array .int) [(.ref ga), (.ref gb), (.ref gc), (.ref gd), (.ref ge)]), (ga, Ary Z .int ((.int (-1)) :: (.int 0) :: (.int 0) :: z13)), (gb, Ary Z .int ((.int cp) :: (.int 0) :: (.int 0) :: z13)), (gc, Ary Z .int ((.int 0) :: (.int 0) :: (.int 0) :: z13)), (gd, Ary Z .int ((.int 0) :: (.int 0) :: (.int 0) :: z13)), (ge, Ary Z .int ((.int 0) :: (.int 0) :: (.int 0) :: z13)), (l1, O1 Z (.int 0) (.ref dce) (.int 0)), (l2, O1 Z (.int 0) (.ref dce) (.int 0)), (f, O4 Z (.int 0) (.int 0) (.int 0) (.int ((-1 : Int32) - cp)) (.int 1) (.int 1) (.int 1) (.int 1) (.int 0))] [(a, Ary Z .char [(.int c0)]), (t, PT), (b, PB)] 40 400) :
    Go p e below (Qw room_1 s Z consts_1 h0 [] (fun rv L1 M1 => rv = some (.int 1) ∧ L1 = [] ∧ M1 = [])) (T0.setTop (mkF m 273 #[vi p0, vi p1, vi p2, vi p3, vi p4, vi cp, vi sp9, vi uA, vi uB, vi c0, vi c1, vi c2, vi 1, vr a, vr t, vi rp, vi md, vr o, vr f, us, us, us] [])) := by
  refine C.a2 S0 at_273 rfl rfl <| C.a2 S0 at_275 rfl rfl <| C.k1 S0 at_277 0 rfl <| C.k1 S0 at_278 0 rfl <| C.xv S0 (S0.exa 0 rfl) (W H 137 rfl) (W H 138 rfl) (Or.inl ⟨_, (W H 140 rfl)⟩) (W H 140 rfl) (W H 139 rfl) (W H 32 rfl) (W H 141 rfl) (finP H o bo g0 l1 hm l2 ga gb gc gd ge cp f) at_279 pd40 [(.ref f), (.int 0), (.int 0)] [] [0, 1, 2, 3, 4, 5, 6, 7, 10, 8, 9] rl0 ?_
  rintro T1 _ _ _ ⟨pr2, po3, pn4, pa5, pb6, pcc7, pd8, plv9, rfl, rfl, rfl⟩ hro1 S1
  replace S1 := S1.nc (L' := [(o, O3 Z (.ref bo) (.ref g0) (.ref l1) (.ref hm) (.ref l2) (.int 2) (.int 0)), (bo, Ary Z .byte ((.int 1) :: (.int 21) :: (.int 0) :: z13)), (g0, Ary Z (.array .int) [(.ref ga), (.ref gb), (.ref gc), (.ref gd), (.ref ge)]), (ga, Ary Z .int ((.int 1) :: (.int (-1)) :: (.int 0) :: z13)), (gb, Ary Z .int ((.int cp) :: (.int 0) :: (.int 0) :: z13)), (gc, Ary Z .int ((.int 0) :: (.int 0) :: (.int 0) :: z13)), (gd, Ary Z .int ((.int 0) :: (.int 0) :: (.int 0) :: z13)), (ge, Ary Z .int ((.int 0) :: (.int 0) :: (.int 0) :: z13)), (l1, O1 Z (.int 0) (.ref dce) (.int 0)), (l2, O1 Z (.int 0) (.ref dce) (.int 0)), (f, O4 Z (.int 0) (.int (-1)) (.int (-1)) (.int ((-1 : Int32) - cp)) (.int 1) (.int 1) (.int 1) (.int 1) (.int 0)), (pr2, O5 Z (.ref po3) (.ref pn4) (.ref pa5) (.ref pb6) (.ref pcc7) (.ref pd8) (.ref plv9) (.int 0) .null (.int 0) (.int 0) (.int 0)), (po3, Ary Z .byte [(.int 1), (.int 21)]), (pn4, Ary Z .int [(.int 1), (.int (-1))]), (pa5, Ary Z .int [(.int cp), (.int 0)]), (pb6, Ary Z .int [(.int 0), (.int 0)]), (pcc7, Ary Z .int [(.int 0), (.int 0)])]) rfl
  refine C.astore S1 at_282 284 rfl rfl #[vi p0, vi p1, vi p2, vi p3, vi p4, vi cp, vi sp9, vi uA, vi uB, vi c0, vi c1, vi c2, vi 1, vr a, vr t, vi rp, vi md, vr o, vr f, vr pr2, us, us] rfl <| C.a2 S1 at_284 rfl rfl <| C.a2 S1 at_286 rfl rfl <| C.xv S1 (S1.exa 11 rfl) (W H 231 rfl) (W H 232 rfl) (Or.inl ⟨_, (W H 234 rfl)⟩) (W H 234 rfl) (W H 233 rfl) (W H 184 rfl) (W H 235 rfl) (prFP H pr2 t b PT PB ([c0] : List Int32) cp po3 pn4 pa5 pb6 pcc7 pd8 plv9 (fG ([c0] : List Int32) cp 0) hT (leD rfl) hcp rfl) at_288 pd41 [(.ref t)] [] [] (rlN (S1.atM 1 rfl) (rlN (S1.atM 2 rfl) (rlN (S1.at 11 rfl) (rlN (S1.at 12 rfl) (rlN (S1.at 13 rfl) (rlN (S1.at 14 rfl) (rlN (S1.at 15 rfl) (rlN (S1.at 16 rfl) rl0)))))))) ?_
  rintro T10 _ _ _ ⟨rfl, rfl, rfl⟩ hro10 S10
  replace S10 := S10.n0
  exact s291_1 H hcp kA kB hU k0 k1 k2 rfl C ((S10.pick [] [0] rfl rfl (by decide)).weak (leD rfl) (leD rfl))
theorem s273_1R (H : Hy a0 Z cst dce nona sfv) {p0 p1 p2 p3 p4 cp sp9 uA uB c0 c1 c2 : Int32} {a t b : Addr} {PT PB : Cell → Prop} {rp md : Int32} {o bo g0 l1 hm l2 ga gb gc gd ge f : Addr} {kd : Int32} (hcp : Cpt cp) (kA : Chr uA) (kB : Chr uB) (hU : ¬ cp < 65536 → Pr cp uA uB) (k0 : Chr c0) (k1 : Chr c1) (k2 : Chr c2) (hT : Tx lch Z t b PT PB ([c0] : List Int32)) (hk : kd = 6 ∨ kd = 7 ∨ kd = 8)
    (C : Cx p s m meth c Z consts_1 x.cls code maxLocals ret x.name) (S0 : St p lch e room_1 s m #[(.int p0), (.int p1), (.int p2), (.int p3), (.int p4)] below meth c Z consts_1 h0 [] T0 [(o, O3 Z (.ref bo) (.ref g0) (.ref l1) (.ref hm) (.ref l2) (.int 2) (.int 0)), (bo, Ary Z .byte ((.int 1) :: (.int kd) :: (.int 0) :: z13)), (g0, Ary Z (.array .int) [(.ref ga), (.ref gb), (.ref gc), (.ref gd), (.ref ge)]), (ga, Ary Z .int ((.int (-1)) :: (.int (-1)) :: (.int 0) :: z13)), (gb, Ary Z .int ((.int cp) :: (.int ((-1 : Int32) - cp)) :: (.int 0) :: z13)), (gc, Ary Z .int ((.int 0) :: (.int 1) :: (.int 0) :: z13)), (gd, Ary Z .int ((.int 0) :: (.int 1) :: (.int 0) :: z13)), (ge, Ary Z .int ((.int 0) :: (.int 0) :: (.int 0) :: z13)), (l1, O1 Z (.int 0) (.ref dce) (.int 0)), (l2, O1 Z (.int 0) (.ref dce) (.int 0)), (f, O4 Z (.int 1) (.int 2) (.int 2) (.int (-2147483648)) (.int 1) (.int 1) (.int 1) (.int 1) (.int 0))] [(a, Ary Z .char [(.int c0)]), (t, PT), (b, PB)] 40 400) :
    Go p e below (Qw room_1 s Z consts_1 h0 [] (fun rv L1 M1 => rv = some (.int 1) ∧ L1 = [] ∧ M1 = [])) (T0.setTop (mkF m 273 #[vi p0, vi p1, vi p2, vi p3, vi p4, vi cp, vi sp9, vi uA, vi uB, vi c0, vi c1, vi c2, vi 1, vr a, vr t, vi rp, vi md, vr o, vr f, us, us, us] [])) := by
  refine C.a2 S0 at_273 rfl rfl <| C.a2 S0 at_275 rfl rfl <| C.k1 S0 at_277 0 rfl <| C.k1 S0 at_278 0 rfl <| C.xv S0 (S0.exa 0 rfl) (W H 137 rfl) (W H 138 rfl) (Or.inl ⟨_, (W H 140 rfl)⟩) (W H 140 rfl) (W H 139 rfl) (W H 32 rfl) (W H 141 rfl) (finR H o bo g0 l1 hm l2 ga gb gc gd ge cp kd f hk) at_279 pd40 [(.ref f), (.int 0), (.int 0)] [] [0, 1, 2, 3, 4, 5, 6, 7, 10, 8, 9] rl0 ?_
  rintro T1 _ _ _ ⟨pr2, po3, pn4, pa5, pb6, pcc7, pd8, plv9, rfl, rfl, rfl⟩ hro1 S1
  replace S1 := S1.nc (L' := [(o, O3 Z (.ref bo) (.ref g0) (.ref l1) (.ref hm) (.ref l2) (.int 3) (.int 0)), (bo, Ary Z .byte ((.int 1) :: (.int kd) :: (.int 21) :: z13)), (g0, Ary Z (.array .int) [(.ref ga), (.ref gb), (.ref gc), (.ref gd), (.ref ge)]), (ga, Ary Z .int ((.int (-1)) :: (.int 2) :: (.int (-1)) :: z13)), (gb, Ary Z .int ((.int cp) :: (.int ((-1 : Int32) - cp)) :: (.int 0) :: z13)), (gc, Ary Z .int ((.int 0) :: (.int 1) :: (.int 0) :: z13)), (gd, Ary Z .int ((.int 0) :: (.int 1) :: (.int 0) :: z13)), (ge, Ary Z .int ((.int 0) :: (.int 0) :: (.int 0) :: z13)), (l1, O1 Z (.int 0) (.ref dce) (.int 0)), (l2, O1 Z (.int 0) (.ref dce) (.int 0)), (f, O4 Z (.int 1) (.int (-1)) (.int (-1)) (.int (-2147483648)) (.int 1) (.int 1) (.int 1) (.int 1) (.int 0)), (pr2, O5 Z (.ref po3) (.ref pn4) (.ref pa5) (.ref pb6) (.ref pcc7) (.ref pd8) (.ref plv9) (.int 1) .null (.int 0) (.int 0) (.int 0)), (po3, Ary Z .byte [(.int 1), (.int kd), (.int 21)]), (pn4, Ary Z .int [(.int (-1)), (.int 2), (.int (-1))]), (pa5, Ary Z .int [(.int cp), (.int ((-1 : Int32) - cp)), (.int 0)]), (pb6, Ary Z .int [(.int 0), (.int 1), (.int 0)]), (pcc7, Ary Z .int [(.int 0), (.int 1), (.int 0)])]) rfl
  refine C.astore S1 at_282 284 rfl rfl #[vi p0, vi p1, vi p2, vi p3, vi p4, vi cp, vi sp9, vi uA, vi uB, vi c0, vi c1, vi c2, vi 1, vr a, vr t, vi rp, vi md, vr o, vr f, vr pr2, us, us] rfl <| C.a2 S1 at_284 rfl rfl <| C.a2 S1 at_286 rfl rfl <| C.xv S1 (S1.exa 11 rfl) (W H 231 rfl) (W H 232 rfl) (Or.inl ⟨_, (W H 234 rfl)⟩) (W H 234 rfl) (W H 233 rfl) (W H 184 rfl) (W H 235 rfl) (prFR H pr2 t b PT PB ([c0] : List Int32) cp po3 pn4 pa5 pb6 pcc7 pd8 plv9 kd (fG ([c0] : List Int32) cp 0) hT (leD rfl) hcp hk rfl) at_288 pd41 [(.ref t)] [] [] (rlN (S1.atM 1 rfl) (rlN (S1.atM 2 rfl) (rlN (S1.at 11 rfl) (rlN (S1.at 12 rfl) (rlN (S1.at 13 rfl) (rlN (S1.at 14 rfl) (rlN (S1.at 15 rfl) (rlN (S1.at 16 rfl) rl0)))))))) ?_
  rintro T10 _ _ _ ⟨rfl, rfl, rfl⟩ hro10 S10
  replace S10 := S10.n0
  exact s291_1 H hcp kA kB hU k0 k1 k2 rfl C ((S10.pick [] [0] rfl rfl (by decide)).weak (leD rfl) (leD rfl))
theorem s209_1 (H : Hy a0 Z cst dce nona sfv) {p0 p1 p2 p3 p4 cp sp9 uA uB c0 c1 c2 : Int32} {a t b : Addr} {PT PB : Cell → Prop} (hcp : Cpt cp) (kA : Chr uA) (kB : Chr uB) (hU : ¬ cp < 65536 → Pr cp uA uB) (k0 : Chr c0) (k1 : Chr c1) (k2 : Chr c2) (hT : Tx lch Z t b PT PB ([c0] : List Int32))
    (C : Cx p s m meth c Z consts_1 x.cls code maxLocals ret x.name) (S0 : St p lch e room_1 s m #[(.int p0), (.int p1), (.int p2), (.int p3), (.int p4)] below meth c Z consts_1 h0 [] T0 [] [(a, Ary Z .char [(.int c0)]), (t, PT), (b, PB)] 6 40) :
    Go p e below (Qw room_1 s Z consts_1 h0 [] (fun rv L1 M1 => rv = some (.int 1) ∧ L1 = [] ∧ M1 = [])) (T0.setTop (mkF m 209 #[vi p0, vi p1, vi p2, vi p3, vi p4, vi cp, vi sp9, vi uA, vi uB, vi c0, vi c1, vi c2, vi 1, vr a, us, us, us, us, us, us, us, us] [(.ref t)])) := by
  refine C.astore S0 at_209 211 rfl rfl #[vi p0, vi p1, vi p2, vi p3, vi p4, vi cp, vi sp9, vi uA, vi uB, vi c0, vi c1, vi c2, vi 1, vr a, vr t, us, us, us, us, us, us, us] rfl <| C.i1 S0 at_211 rfl <| C.k2 S0 at_212 8 rfl <| C.ishr S0 at_214 215 rfl (p1 >>> ((8 : Int32) &&& 31)) rfl <| C.k1 S0 at_215 1 rfl <| C.iand S0 at_216 217 rfl ((p1 >>> ((8 : Int32) &&& 31)) &&& (1 : Int32)) rfl <| C.if_eq S0 at_217 224 220 (by decide) (by decide) rfl (fun hc1 => ?_) fun hc1 => ?_
  · refine C.k1 S0 at_224 0 rfl <| C.istore S0 at_225 227 rfl #[vi p0, vi p1, vi p2, vi p3, vi p4, vi cp, vi sp9, vi uA, vi uB, vi c0, vi c1, vi c2, vi 1, vr a, vr t, vi 0, us, us, us, us, us, us] rfl <| C.i1 S0 at_227 rfl <| C.k2 S0 at_228 9 rfl <| C.iushr S0 at_230 231 rfl (XT.ushr p1 (9 : Int32)) rfl <| C.k1 S0 at_231 3 rfl <| C.iand S0 at_232 233 rfl ((XT.ushr p1 (9 : Int32)) &&& (3 : Int32)) rfl <| C.k1 S0 at_233 3 rfl <| C.irem S0 at_234 235 rfl (by decide) (((XT.ushr p1 (9 : Int32)) &&& (3 : Int32)) % (3 : Int32)) rfl <| C.istore S0 at_235 237 rfl #[vi p0, vi p1, vi p2, vi p3, vi p4, vi cp, vi sp9, vi uA, vi uB, vi c0, vi c1, vi c2, vi 1, vr a, vr t, vi 0, vi (((XT.ushr p1 (9 : Int32)) &&& (3 : Int32)) % (3 : Int32)), us, us, us, us, us] rfl ?_
    exact s237P H hcp (fun S => s273_1P H hcp kA kB hU k0 k1 k2 hT C S) C S0
  · refine C.k1 S0 at_220 1 rfl <| C.g S0 at_221 225 rfl <| C.istore S0 at_225 227 rfl #[vi p0, vi p1, vi p2, vi p3, vi p4, vi cp, vi sp9, vi uA, vi uB, vi c0, vi c1, vi c2, vi 1, vr a, vr t, vi 1, us, us, us, us, us, us] rfl <| C.i1 S0 at_227 rfl <| C.k2 S0 at_228 9 rfl <| C.iushr S0 at_230 231 rfl (XT.ushr p1 (9 : Int32)) rfl <| C.k1 S0 at_231 3 rfl <| C.iand S0 at_232 233 rfl ((XT.ushr p1 (9 : Int32)) &&& (3 : Int32)) rfl <| C.k1 S0 at_233 3 rfl <| C.irem S0 at_234 235 rfl (by decide) (((XT.ushr p1 (9 : Int32)) &&& (3 : Int32)) % (3 : Int32)) rfl <| C.istore S0 at_235 237 rfl #[vi p0, vi p1, vi p2, vi p3, vi p4, vi cp, vi sp9, vi uA, vi uB, vi c0, vi c1, vi c2, vi 1, vr a, vr t, vi 1, vi (((XT.ushr p1 (9 : Int32)) &&& (3 : Int32)) % (3 : Int32)), us, us, us, us, us] rfl ?_
    exact s237R H hcp (own_mod3 _) (fun hk S => s273_1R H hcp kA kB hU k0 k1 k2 hT hk C S) C S0
theorem s124_1 (H : Hy a0 Z cst dce nona sfv) {p0 p1 p2 p3 p4 cp sp9 uA uB c0 c1 c2 : Int32} (hcp : Cpt cp) (kA : Chr uA) (kB : Chr uB) (hU : ¬ cp < 65536 → Pr cp uA uB) (k0 : Chr c0) (k1 : Chr c1) (k2 : Chr c2)
    (C : Cx p s m meth c Z consts_1 x.cls code maxLocals ret x.name) (S0 : St p lch e room_1 s m #[(.int p0), (.int p1), (.int p2), (.int p3), (.int p4)] below meth c Z consts_1 h0 [] T0 [] [] 0 0) :
    Go p e below (Qw room_1 s Z consts_1 h0 [] (fun rv L1 M1 => rv = some (.int 1) ∧ L1 = [] ∧ M1 = [])) (T0.setTop (mkF m 124 #[vi p0, vi p1, vi p2, vi p3, vi p4, vi cp, vi sp9, vi uA, vi uB, vi c0, vi c1, vi c2, vi 1, us, us, us, us, us, us, us, us, us] [])) := by
  refine C.i2 S0 at_124 rfl <| C.if_neT S0 at_126 137 rfl (by decide) <| C.i2 S0 at_137 rfl <| C.k1 S0 at_139 1 rfl <| C.icmp_neF S0 at_140 143 rfl (by decide) <| C.k1 S0 at_143 1 rfl <| C.newarray (aty := .char) S0 (W H 8 rfl) at_144 146 rfl (by decide) 1 rfl 1 (leD rfl) (by decide) (leD rfl) (leD rfl) fun T3 b3 S3 => C.dup S3 at_146 147 rfl rfl <| C.k1 S3 at_147 0 rfl <| C.i2 S3 at_148 rfl <| C.castore S3 0 rfl at_150 151 rfl (by decide) 0 rfl (leD rfl) c0 (char_nar k0) fun T4 S4 => C.astore S4 at_151 153 rfl rfl #[vi p0, vi p1, vi p2, vi p3, vi p4, vi cp, vi sp9, vi uA, vi uB, vi c0, vi c1, vi c2, vi 1, vr b3, us, us, us, us, us, us, us, us] rfl <| C.g S4 at_153 200 rfl ?_
  by_cases u0 : 255 < c0
  · refine C.new S4 (W H 9 rfl) (W H 10 rfl) (W H 11 rfl) at_200 (layO0 H.1) (by decide) 203 rfl (leD rfl) (leD rfl) fun T5 b5 S5 => C.dup S5 at_203 204 rfl rfl <| C.a2 S5 at_204 rfl rfl <| C.xi (a := b5) S5 (W H 12 rfl) (W H 13 rfl) (W H 11 rfl) (W H 14 rfl) (si1_1_0 H b5 b3 c0 u0 k0) at_206 pd42 [(.ref b3)] [(.ref b5)] [1, 0] rl0 ?_
    rintro T6 _ _ _ ⟨b7, rfl, rfl, rfl⟩ hro6 S6
    replace S6 := S6.nc (L' := [(b3, Ary Z .char [(.int c0)]), (b5, O0 Z (.int 1) (.ref b7)), (b7, Ary Z .byte [(.int (blo c0)), (.int (bhi c0))])]) rfl
    exact s209_1 H hcp kA kB hU k0 k1 k2 (txU (cs := ([c0] : List Int32)) H (leD rfl) (fun j => by match j with | 0 => exact k0 | n + 1 => exact chr0)) C ((((S6.frz [1, 2] rfl (by decide) 0 rfl (by decide)).frz [1] rfl (by decide) 0 rfl (by decide)).frz [] rfl (by decide) 0 rfl (by decide)).weak (leD rfl) (leD rfl))
  · have q0 := lat_of k0 u0
    refine C.new S4 (W H 9 rfl) (W H 10 rfl) (W H 11 rfl) at_200 (layO0 H.1) (by decide) 203 rfl (leD rfl) (leD rfl) fun T8 b8 S8 => C.dup S8 at_203 204 rfl rfl <| C.a2 S8 at_204 rfl rfl <| C.xi (a := b8) S8 (W H 12 rfl) (W H 13 rfl) (W H 11 rfl) (W H 14 rfl) (strInit H b8 b3 [c0] ⟨faS q0 (fa0), leD rfl⟩ (leD rfl) (leD rfl)) at_206 pd42 [(.ref b3)] [(.ref b8)] [1, 0] rl0 ?_
    rintro T9 _ _ _ ⟨b10, rfl, rfl, rfl⟩ hro9 S9
    replace S9 := S9.nc (L' := [(b3, Ary Z .char [(.int c0)]), (b8, O0 Z (.int 0) (.ref b10)), (b10, Ary Z .byte [(.int c0.toInt8.toInt32)])]) rfl
    exact s209_1 H hcp kA kB hU k0 k1 k2 (txL (cs := ([c0] : List Int32)) H (leD rfl) (fun j => by match j with | 0 => exact k0 | n + 1 => exact chr0) (fun j => by match j with | 0 => exact q0 | n + 1 => exact lat0)) C ((((S9.frz [1, 2] rfl (by decide) 0 rfl (by decide)).frz [1] rfl (by decide) 0 rfl (by decide)).frz [] rfl (by decide) 0 rfl (by decide)).weak (leD rfl) (leD rfl))
theorem s291_2 (H : Hy a0 Z cst dce nona sfv) {p0 p1 p2 p3 p4 cp sp9 uA uB c0 c1 c2 : Int32} {a t : Addr} {rp md : Int32} {o f pr : Addr} {r0 : Int32} (hcp : Cpt cp) (kA : Chr uA) (kB : Chr uB) (hU : ¬ cp < 65536 → Pr cp uA uB) (k0 : Chr c0) (k1 : Chr c1) (k2 : Chr c2) (hr : fG ([c0, c1] : List Int32) cp 0 = r0)
    (C : Cx p s m meth c Z consts_1 x.cls code maxLocals ret x.name) (S0 : St p lch e room_1 s m #[(.int p0), (.int p1), (.int p2), (.int p3), (.int p4)] below meth c Z consts_1 h0 [] T0 [] [(a, Ary Z .char [(.int c0), (.int c1)])] 60 1500) :
    Go p e below (Qw room_1 s Z consts_1 h0 [] (fun rv L1 M1 => rv = some (.int 1) ∧ L1 = [] ∧ M1 = [])) (T0.setTop (mkF m 291 #[vi p0, vi p1, vi p2, vi p3, vi p4, vi cp, vi sp9, vi uA, vi uB, vi c0, vi c1, vi c2, vi 2, vr a, vr t, vi rp, vi md, vr o, vr f, vr pr, us, us] [(.int r0)])) := by
  refine C.istore S0 at_291 293 rfl #[vi p0, vi p1, vi p2, vi p3, vi p4, vi cp, vi sp9, vi uA, vi uB, vi c0, vi c1, vi c2, vi 2, vr a, vr t, vi rp, vi md, vr o, vr f, vr pr, vi r0, us] rfl <| C.a2 S0 at_293 rfl rfl <| C.i2 S0 at_295 rfl <| C.k1 S0 at_297 0 rfl <| C.i2 S0 at_298 rfl <| C.i2 S0 at_300 rfl <| C.i2 S0 at_302 rfl <| C.xs S0 (W H 314 rfl) (W H 315 rfl) (W H 5 rfl) (W H 316 rfl) (matZ H a [c0, c1] cp uA uB (leD rfl) (leD rfl)) at_304 pd39 [(.ref a), (.int 2), (.int 0), (.int cp), (.int uA), (.int uB)] [] [] (rlN (S0.atM 0 rfl) rl0) ?_
  rintro T1 _ _ _ ⟨rfl, rfl, rfl⟩ hro1 S1
  replace S1 := S1.n0
  refine C.if_ne S1 at_307 344 310 (by decide) (by decide) rfl (fun hc2 => ?_) fun hc2 => ?_
  · refine C.k1 S1 at_344 1 rfl <| C.g S1 at_345 349 rfl <| C.istore S1 at_349 351 rfl #[vi p0, vi p1, vi p2, vi p3, vi p4, vi cp, vi sp9, vi uA, vi uB, vi c0, vi c1, vi c2, vi 2, vr a, vr t, vi rp, vi md, vr o, vr f, vr pr, vi r0, vi 1] rfl <| C.i2 S1 at_351 rfl <| C.i2 S1 at_353 rfl <| C.icmp_ne S1 at_355 362 358 (by decide) (by decide) rfl (fun hc3 => absurd (hr.symm.trans (fg2.trans ((pure2 hcp hU k0 k1).trans (or_1 hc2)))) hc3) fun hc3 => C.k1 S1 at_358 1 rfl <| C.g S1 at_359 363 rfl ?_
    exact C.rN S1 at_363 1 (by decide) [] ⟨rfl, rfl, rfl⟩
  · refine C.a2 S1 at_310 rfl rfl <| C.i2 S1 at_312 rfl <| C.k1 S1 at_314 1 rfl <| C.i2 S1 at_315 rfl <| C.i2 S1 at_317 rfl <| C.i2 S1 at_319 rfl <| C.xs S1 (W H 314 rfl) (W H 315 rfl) (W H 5 rfl) (W H 316 rfl) (matS H a [c0, c1] cp uA uB 0 (leD rfl) (leD rfl)) at_321 pd39 [(.ref a), (.int 2), (.int 1), (.int cp), (.int uA), (.int uB)] [] [] (rlN (S1.atM 0 rfl) rl0) ?_
    rintro T4 _ _ _ ⟨rfl, rfl, rfl⟩ hro4 S4
    replace S4 := S4.n0
    refine C.if_ne S4 at_324 344 327 (by decide) (by decide) rfl (fun hc5 => ?_) fun hc5 => ?_
    · refine C.k1 S4 at_344 1 rfl <| C.g S4 at_345 349 rfl <| C.istore S4 at_349 351 rfl #[vi p0, vi p1, vi p2, vi p3, vi p4, vi cp, vi sp9, vi uA, vi uB, vi c0, vi c1, vi c2, vi 2, vr a, vr t, vi rp, vi md, vr o, vr f, vr pr, vi r0, vi 1] rfl <| C.i2 S4 at_351 rfl <| C.i2 S4 at_353 rfl <| C.icmp_ne S4 at_355 362 358 (by decide) (by decide) rfl (fun hc6 => absurd (hr.symm.trans (fg2.trans ((pure2 hcp hU k0 k1).trans (or_2 hc2 hc5)))) hc6) fun hc6 => C.k1 S4 at_358 1 rfl <| C.g S4 at_359 363 rfl ?_
      exact C.rN S4 at_363 1 (by decide) [] ⟨rfl, rfl, rfl⟩
    · refine C.a2 S4 at_327 rfl rfl <| C.i2 S4 at_329 rfl <| C.k1 S4 at_331 2 rfl <| C.i2 S4 at_332 rfl <| C.i2 S4 at_334 rfl <| C.i2 S4 at_336 rfl <| C.xs S4 (W H 314 rfl) (W H 315 rfl) (W H 5 rfl) (W H 316 rfl) (matO H a (2 : Int32) (2 : Int32) cp uA uB (by decide)) at_338 pd39 [(.ref a), (.int 2), (.int 2), (.int cp), (.int uA), (.int uB)] [] [] rl0 ?_
      rintro T7 _ _ _ ⟨rfl, rfl, rfl⟩ hro7 S7
      replace S7 := S7.n0
      refine C.if_eqT S7 at_341 348 rfl (by decide) <| C.k1 S7 at_348 0 rfl <| C.istore S7 at_349 351 rfl #[vi p0, vi p1, vi p2, vi p3, vi p4, vi cp, vi sp9, vi uA, vi uB, vi c0, vi c1, vi c2, vi 2, vr a, vr t, vi rp, vi md, vr o, vr f, vr pr, vi r0, vi 0] rfl <| C.i2 S7 at_351 rfl <| C.i2 S7 at_353 rfl <| C.icmp_ne S7 at_355 362 358 (by decide) (by decide) rfl (fun hc9 => absurd (hr.symm.trans (fg2.trans ((pure2 hcp hU k0 k1).trans (or_0 hc2 hc5 rfl)))) hc9) fun hc9 => C.k1 S7 at_358 1 rfl <| C.g S7 at_359 363 rfl ?_
      exact C.rN S7 at_363 1 (by decide) [] ⟨rfl, rfl, rfl⟩
theorem s273_2P (H : Hy a0 Z cst dce nona sfv) {p0 p1 p2 p3 p4 cp sp9 uA uB c0 c1 c2 : Int32} {a t b : Addr} {PT PB : Cell → Prop} {rp md : Int32} {o bo g0 l1 hm l2 ga gb gc gd ge f : Addr} (hcp : Cpt cp) (kA : Chr uA) (kB : Chr uB) (hU : ¬ cp < 65536 → Pr cp uA uB) (k0 : Chr c0) (k1 : Chr c1) (k2 : Chr c2) (hT : Tx lch Z t b PT PB ([c0, c1] : List Int32))
    (C : Cx p s m meth c Z consts_1 x.cls code maxLocals ret x.name) (S0 : St p lch e room_1 s m #[(.int p0), (.int p1), (.int p2), (.int p3), (.int p4)] below meth c Z consts_1 h0 [] T0 [(o, O3 Z (.ref bo) (.ref g0) (.ref l1) (.ref hm) (.ref l2) (.int 1) (.int 0)), (bo, Ary Z .byte ((.int 1) :: (.int 0) :: (.int 0) :: z13)), (g0, Ary Z (.array .int) [(.ref ga), (.ref gb), (.ref gc), (.ref gd), (.ref ge)]), (ga, Ary Z .int ((.int (-1)) :: (.int 0) :: (.int 0) :: z13)), (gb, Ary Z .int ((.int cp) :: (.int 0) :: (.int 0) :: z13)), (gc, Ary Z .int ((.int 0) :: (.int 0) :: (.int 0) :: z13)), (gd, Ary Z .int ((.int 0) :: (.int 0) :: (.int 0) :: z13)), (ge, Ary Z .int ((.int 0) :: (.int 0) :: (.int 0) :: z13)), (l1, O1 Z (.int 0) (.ref dce) (.int 0)), (l2, O1 Z (.int 0) (.ref dce) (.int 0)), (f, O4 Z (.int 0) (.int 0) (.int 0) (.int ((-1 : Int32) - cp)) (.int 1) (.int 1) (.int 1) (.int 1) (.int 0))] [(a, Ary Z .char [(.int c0), (.int c1)]), (t, PT), (b, PB)] 40 400) :
    Go p e below (Qw room_1 s Z consts_1 h0 [] (fun rv L1 M1 => rv = some (.int 1) ∧ L1 = [] ∧ M1 = [])) (T0.setTop (mkF m 273 #[vi p0, vi p1, vi p2, vi p3, vi p4, vi cp, vi sp9, vi uA, vi uB, vi c0, vi c1, vi c2, vi 2, vr a, vr t, vi rp, vi md, vr o, vr f, us, us, us] [])) := by
  refine C.a2 S0 at_273 rfl rfl <| C.a2 S0 at_275 rfl rfl <| C.k1 S0 at_277 0 rfl <| C.k1 S0 at_278 0 rfl <| C.xv S0 (S0.exa 0 rfl) (W H 137 rfl) (W H 138 rfl) (Or.inl ⟨_, (W H 140 rfl)⟩) (W H 140 rfl) (W H 139 rfl) (W H 32 rfl) (W H 141 rfl) (finP H o bo g0 l1 hm l2 ga gb gc gd ge cp f) at_279 pd40 [(.ref f), (.int 0), (.int 0)] [] [0, 1, 2, 3, 4, 5, 6, 7, 10, 8, 9] rl0 ?_
  rintro T1 _ _ _ ⟨pr2, po3, pn4, pa5, pb6, pcc7, pd8, plv9, rfl, rfl, rfl⟩ hro1 S1
  replace S1 := S1.nc (L' := [(o, O3 Z (.ref bo) (.ref g0) (.ref l1) (.ref hm) (.ref l2) (.int 2) (.int 0)), (bo, Ary Z .byte ((.int 1) :: (.int 21) :: (.int 0) :: z13)), (g0, Ary Z (.array .int) [(.ref ga), (.ref gb), (.ref gc), (.ref gd), (.ref ge)]), (ga, Ary Z .int ((.int 1) :: (.int (-1)) :: (.int 0) :: z13)), (gb, Ary Z .int ((.int cp) :: (.int 0) :: (.int 0) :: z13)), (gc, Ary Z .int ((.int 0) :: (.int 0) :: (.int 0) :: z13)), (gd, Ary Z .int ((.int 0) :: (.int 0) :: (.int 0) :: z13)), (ge, Ary Z .int ((.int 0) :: (.int 0) :: (.int 0) :: z13)), (l1, O1 Z (.int 0) (.ref dce) (.int 0)), (l2, O1 Z (.int 0) (.ref dce) (.int 0)), (f, O4 Z (.int 0) (.int (-1)) (.int (-1)) (.int ((-1 : Int32) - cp)) (.int 1) (.int 1) (.int 1) (.int 1) (.int 0)), (pr2, O5 Z (.ref po3) (.ref pn4) (.ref pa5) (.ref pb6) (.ref pcc7) (.ref pd8) (.ref plv9) (.int 0) .null (.int 0) (.int 0) (.int 0)), (po3, Ary Z .byte [(.int 1), (.int 21)]), (pn4, Ary Z .int [(.int 1), (.int (-1))]), (pa5, Ary Z .int [(.int cp), (.int 0)]), (pb6, Ary Z .int [(.int 0), (.int 0)]), (pcc7, Ary Z .int [(.int 0), (.int 0)])]) rfl
  refine C.astore S1 at_282 284 rfl rfl #[vi p0, vi p1, vi p2, vi p3, vi p4, vi cp, vi sp9, vi uA, vi uB, vi c0, vi c1, vi c2, vi 2, vr a, vr t, vi rp, vi md, vr o, vr f, vr pr2, us, us] rfl <| C.a2 S1 at_284 rfl rfl <| C.a2 S1 at_286 rfl rfl <| C.xv S1 (S1.exa 11 rfl) (W H 231 rfl) (W H 232 rfl) (Or.inl ⟨_, (W H 234 rfl)⟩) (W H 234 rfl) (W H 233 rfl) (W H 184 rfl) (W H 235 rfl) (prFP H pr2 t b PT PB ([c0, c1] : List Int32) cp po3 pn4 pa5 pb6 pcc7 pd8 plv9 (fG ([c0, c1] : List Int32) cp 0) hT (leD rfl) hcp rfl) at_288 pd41 [(.ref t)] [] [] (rlN (S1.atM 1 rfl) (rlN (S1.atM 2 rfl) (rlN (S1.at 11 rfl) (rlN (S1.at 12 rfl) (rlN (S1.at 13 rfl) (rlN (S1.at 14 rfl) (rlN (S1.at 15 rfl) (rlN (S1.at 16 rfl) rl0)))))))) ?_
  rintro T10 _ _ _ ⟨rfl, rfl, rfl⟩ hro10 S10
  replace S10 := S10.n0
  exact s291_2 H hcp kA kB hU k0 k1 k2 rfl C ((S10.pick [] [0] rfl rfl (by decide)).weak (leD rfl) (leD rfl))
theorem s273_2R (H : Hy a0 Z cst dce nona sfv) {p0 p1 p2 p3 p4 cp sp9 uA uB c0 c1 c2 : Int32} {a t b : Addr} {PT PB : Cell → Prop} {rp md : Int32} {o bo g0 l1 hm l2 ga gb gc gd ge f : Addr} {kd : Int32} (hcp : Cpt cp) (kA : Chr uA) (kB : Chr uB) (hU : ¬ cp < 65536 → Pr cp uA uB) (k0 : Chr c0) (k1 : Chr c1) (k2 : Chr c2) (hT : Tx lch Z t b PT PB ([c0, c1] : List Int32)) (hk : kd = 6 ∨ kd = 7 ∨ kd = 8)
    (C : Cx p s m meth c Z consts_1 x.cls code maxLocals ret x.name) (S0 : St p lch e room_1 s m #[(.int p0), (.int p1), (.int p2), (.int p3), (.int p4)] below meth c Z consts_1 h0 [] T0 [(o, O3 Z (.ref bo) (.ref g0) (.ref l1) (.ref hm) (.ref l2) (.int 2) (.int 0)), (bo, Ary Z .byte ((.int 1) :: (.int kd) :: (.int 0) :: z13)), (g0, Ary Z (.array .int) [(.ref ga), (.ref gb), (.ref gc), (.ref gd), (.ref ge)]), (ga, Ary Z .int ((.int (-1)) :: (.int (-1)) :: (.int 0) :: z13)), (gb, Ary Z .int ((.int cp) :: (.int ((-1 : Int32) - cp)) :: (.int 0) :: z13)), (gc, Ary Z .int ((.int 0) :: (.int 1) :: (.int 0) :: z13)), (gd, Ary Z .int ((.int 0) :: (.int 1) :: (.int 0) :: z13)), (ge, Ary Z .int ((.int 0) :: (.int 0) :: (.int 0) :: z13)), (l1, O1 Z (.int 0) (.ref dce) (.int 0)), (l2, O1 Z (.int 0) (.ref dce) (.int 0)), (f, O4 Z (.int 1) (.int 2) (.int 2) (.int (-2147483648)) (.int 1) (.int 1) (.int 1) (.int 1) (.int 0))] [(a, Ary Z .char [(.int c0), (.int c1)]), (t, PT), (b, PB)] 40 400) :
    Go p e below (Qw room_1 s Z consts_1 h0 [] (fun rv L1 M1 => rv = some (.int 1) ∧ L1 = [] ∧ M1 = [])) (T0.setTop (mkF m 273 #[vi p0, vi p1, vi p2, vi p3, vi p4, vi cp, vi sp9, vi uA, vi uB, vi c0, vi c1, vi c2, vi 2, vr a, vr t, vi rp, vi md, vr o, vr f, us, us, us] [])) := by
  refine C.a2 S0 at_273 rfl rfl <| C.a2 S0 at_275 rfl rfl <| C.k1 S0 at_277 0 rfl <| C.k1 S0 at_278 0 rfl <| C.xv S0 (S0.exa 0 rfl) (W H 137 rfl) (W H 138 rfl) (Or.inl ⟨_, (W H 140 rfl)⟩) (W H 140 rfl) (W H 139 rfl) (W H 32 rfl) (W H 141 rfl) (finR H o bo g0 l1 hm l2 ga gb gc gd ge cp kd f hk) at_279 pd40 [(.ref f), (.int 0), (.int 0)] [] [0, 1, 2, 3, 4, 5, 6, 7, 10, 8, 9] rl0 ?_
  rintro T1 _ _ _ ⟨pr2, po3, pn4, pa5, pb6, pcc7, pd8, plv9, rfl, rfl, rfl⟩ hro1 S1
  replace S1 := S1.nc (L' := [(o, O3 Z (.ref bo) (.ref g0) (.ref l1) (.ref hm) (.ref l2) (.int 3) (.int 0)), (bo, Ary Z .byte ((.int 1) :: (.int kd) :: (.int 21) :: z13)), (g0, Ary Z (.array .int) [(.ref ga), (.ref gb), (.ref gc), (.ref gd), (.ref ge)]), (ga, Ary Z .int ((.int (-1)) :: (.int 2) :: (.int (-1)) :: z13)), (gb, Ary Z .int ((.int cp) :: (.int ((-1 : Int32) - cp)) :: (.int 0) :: z13)), (gc, Ary Z .int ((.int 0) :: (.int 1) :: (.int 0) :: z13)), (gd, Ary Z .int ((.int 0) :: (.int 1) :: (.int 0) :: z13)), (ge, Ary Z .int ((.int 0) :: (.int 0) :: (.int 0) :: z13)), (l1, O1 Z (.int 0) (.ref dce) (.int 0)), (l2, O1 Z (.int 0) (.ref dce) (.int 0)), (f, O4 Z (.int 1) (.int (-1)) (.int (-1)) (.int (-2147483648)) (.int 1) (.int 1) (.int 1) (.int 1) (.int 0)), (pr2, O5 Z (.ref po3) (.ref pn4) (.ref pa5) (.ref pb6) (.ref pcc7) (.ref pd8) (.ref plv9) (.int 1) .null (.int 0) (.int 0) (.int 0)), (po3, Ary Z .byte [(.int 1), (.int kd), (.int 21)]), (pn4, Ary Z .int [(.int (-1)), (.int 2), (.int (-1))]), (pa5, Ary Z .int [(.int cp), (.int ((-1 : Int32) - cp)), (.int 0)]), (pb6, Ary Z .int [(.int 0), (.int 1), (.int 0)]), (pcc7, Ary Z .int [(.int 0), (.int 1), (.int 0)])]) rfl
  refine C.astore S1 at_282 284 rfl rfl #[vi p0, vi p1, vi p2, vi p3, vi p4, vi cp, vi sp9, vi uA, vi uB, vi c0, vi c1, vi c2, vi 2, vr a, vr t, vi rp, vi md, vr o, vr f, vr pr2, us, us] rfl <| C.a2 S1 at_284 rfl rfl <| C.a2 S1 at_286 rfl rfl <| C.xv S1 (S1.exa 11 rfl) (W H 231 rfl) (W H 232 rfl) (Or.inl ⟨_, (W H 234 rfl)⟩) (W H 234 rfl) (W H 233 rfl) (W H 184 rfl) (W H 235 rfl) (prFR H pr2 t b PT PB ([c0, c1] : List Int32) cp po3 pn4 pa5 pb6 pcc7 pd8 plv9 kd (fG ([c0, c1] : List Int32) cp 0) hT (leD rfl) hcp hk rfl) at_288 pd41 [(.ref t)] [] [] (rlN (S1.atM 1 rfl) (rlN (S1.atM 2 rfl) (rlN (S1.at 11 rfl) (rlN (S1.at 12 rfl) (rlN (S1.at 13 rfl) (rlN (S1.at 14 rfl) (rlN (S1.at 15 rfl) (rlN (S1.at 16 rfl) rl0)))))))) ?_
  rintro T10 _ _ _ ⟨rfl, rfl, rfl⟩ hro10 S10
  replace S10 := S10.n0
  exact s291_2 H hcp kA kB hU k0 k1 k2 rfl C ((S10.pick [] [0] rfl rfl (by decide)).weak (leD rfl) (leD rfl))
theorem s209_2 (H : Hy a0 Z cst dce nona sfv) {p0 p1 p2 p3 p4 cp sp9 uA uB c0 c1 c2 : Int32} {a t b : Addr} {PT PB : Cell → Prop} (hcp : Cpt cp) (kA : Chr uA) (kB : Chr uB) (hU : ¬ cp < 65536 → Pr cp uA uB) (k0 : Chr c0) (k1 : Chr c1) (k2 : Chr c2) (hT : Tx lch Z t b PT PB ([c0, c1] : List Int32))
    (C : Cx p s m meth c Z consts_1 x.cls code maxLocals ret x.name) (S0 : St p lch e room_1 s m #[(.int p0), (.int p1), (.int p2), (.int p3), (.int p4)] below meth c Z consts_1 h0 [] T0 [] [(a, Ary Z .char [(.int c0), (.int c1)]), (t, PT), (b, PB)] 6 40) :
    Go p e below (Qw room_1 s Z consts_1 h0 [] (fun rv L1 M1 => rv = some (.int 1) ∧ L1 = [] ∧ M1 = [])) (T0.setTop (mkF m 209 #[vi p0, vi p1, vi p2, vi p3, vi p4, vi cp, vi sp9, vi uA, vi uB, vi c0, vi c1, vi c2, vi 2, vr a, us, us, us, us, us, us, us, us] [(.ref t)])) := by
  refine C.astore S0 at_209 211 rfl rfl #[vi p0, vi p1, vi p2, vi p3, vi p4, vi cp, vi sp9, vi uA, vi uB, vi c0, vi c1, vi c2, vi 2, vr a, vr t, us, us, us, us, us, us, us] rfl <| C.i1 S0 at_211 rfl <| C.k2 S0 at_212 8 rfl <| C.ishr S0 at_214 215 rfl (p1 >>> ((8 : Int32) &&& 31)) rfl <| C.k1 S0 at_215 1 rfl <| C.iand S0 at_216 217 rfl ((p1 >>> ((8 : Int32) &&& 31)) &&& (1 : Int32)) rfl <| C.if_eq S0 at_217 224 220 (by decide) (by decide) rfl (fun hc1 => ?_) fun hc1 => ?_
  · refine C.k1 S0 at_224 0 rfl <| C.istore S0 at_225 227 rfl #[vi p0, vi p1, vi p2, vi p3, vi p4, vi cp, vi sp9, vi uA, vi uB, vi c0, vi c1, vi c2, vi 2, vr a, vr t, vi 0, us, us, us, us, us, us] rfl <| C.i1 S0 at_227 rfl <| C.k2 S0 at_228 9 rfl <| C.iushr S0 at_230 231 rfl (XT.ushr p1 (9 : Int32)) rfl <| C.k1 S0 at_231 3 rfl <| C.iand S0 at_232 233 rfl ((XT.ushr p1 (9 : Int32)) &&& (3 : Int32)) rfl <| C.k1 S0 at_233 3 rfl <| C.irem S0 at_234 235 rfl (by decide) (((XT.ushr p1 (9 : Int32)) &&& (3 : Int32)) % (3 : Int32)) rfl <| C.istore S0 at_235 237 rfl #[vi p0, vi p1, vi p2, vi p3, vi p4, vi cp, vi sp9, vi uA, vi uB, vi c0, vi c1, vi c2, vi 2, vr a, vr t, vi 0, vi (((XT.ushr p1 (9 : Int32)) &&& (3 : Int32)) % (3 : Int32)), us, us, us, us, us] rfl ?_
    exact s237P H hcp (fun S => s273_2P H hcp kA kB hU k0 k1 k2 hT C S) C S0
  · refine C.k1 S0 at_220 1 rfl <| C.g S0 at_221 225 rfl <| C.istore S0 at_225 227 rfl #[vi p0, vi p1, vi p2, vi p3, vi p4, vi cp, vi sp9, vi uA, vi uB, vi c0, vi c1, vi c2, vi 2, vr a, vr t, vi 1, us, us, us, us, us, us] rfl <| C.i1 S0 at_227 rfl <| C.k2 S0 at_228 9 rfl <| C.iushr S0 at_230 231 rfl (XT.ushr p1 (9 : Int32)) rfl <| C.k1 S0 at_231 3 rfl <| C.iand S0 at_232 233 rfl ((XT.ushr p1 (9 : Int32)) &&& (3 : Int32)) rfl <| C.k1 S0 at_233 3 rfl <| C.irem S0 at_234 235 rfl (by decide) (((XT.ushr p1 (9 : Int32)) &&& (3 : Int32)) % (3 : Int32)) rfl <| C.istore S0 at_235 237 rfl #[vi p0, vi p1, vi p2, vi p3, vi p4, vi cp, vi sp9, vi uA, vi uB, vi c0, vi c1, vi c2, vi 2, vr a, vr t, vi 1, vi (((XT.ushr p1 (9 : Int32)) &&& (3 : Int32)) % (3 : Int32)), us, us, us, us, us] rfl ?_
    exact s237R H hcp (own_mod3 _) (fun hk S => s273_2R H hcp kA kB hU k0 k1 k2 hT hk C S) C S0
theorem s124_2 (H : Hy a0 Z cst dce nona sfv) {p0 p1 p2 p3 p4 cp sp9 uA uB c0 c1 c2 : Int32} (hcp : Cpt cp) (kA : Chr uA) (kB : Chr uB) (hU : ¬ cp < 65536 → Pr cp uA uB) (k0 : Chr c0) (k1 : Chr c1) (k2 : Chr c2)
    (C : Cx p s m meth c Z consts_1 x.cls code maxLocals ret x.name) (S0 : St p lch e room_1 s m #[(.int p0), (.int p1), (.int p2), (.int p3), (.int p4)] below meth c Z consts_1 h0 [] T0 [] [] 0 0) :
    Go p e below (Qw room_1 s Z consts_1 h0 [] (fun rv L1 M1 => rv = some (.int 1) ∧ L1 = [] ∧ M1 = [])) (T0.setTop (mkF m 124 #[vi p0, vi p1, vi p2, vi p3, vi p4, vi cp, vi sp9, vi uA, vi uB, vi c0, vi c1, vi c2, vi 2, us, us, us, us, us, us, us, us, us] [])) := by
  refine C.i2 S0 at_124 rfl <| C.if_neT S0 at_126 137 rfl (by decide) <| C.i2 S0 at_137 rfl <| C.k1 S0 at_139 1 rfl <| C.icmp_neT S0 at_140 156 rfl (by decide) <| C.i2 S0 at_156 rfl <| C.k1 S0 at_158 2 rfl <| C.icmp_neF S0 at_159 162 rfl (by decide) <| C.k1 S0 at_162 2 rfl <| C.newarray (aty := .char) S0 (W H 8 rfl) at_163 165 rfl (by decide) 2 rfl 2 (leD rfl) (by decide) (leD rfl) (leD rfl) fun T4 b4 S4 => C.dup S4 at_165 166 rfl rfl <| C.k1 S4 at_166 0 rfl <| C.i2 S4 at_167 rfl <| C.castore S4 0 rfl at_169 170 rfl (by decide) 0 rfl (leD rfl) c0 (char_nar k0) fun T5 S5 => C.dup S5 at_170 171 rfl rfl <| C.k1 S5 at_171 1 rfl <| C.i2 S5 at_172 rfl <| C.castore S5 0 rfl at_174 175 rfl (by decide) 1 rfl (leD rfl) c1 (char_nar k1) fun T6 S6 => C.astore S6 at_175 177 rfl rfl #[vi p0, vi p1, vi p2, vi p3, vi p4, vi cp, vi sp9, vi uA, vi uB, vi c0, vi c1, vi c2, vi 2, vr b4, us, us, us, us, us, us, us, us] rfl ?_
  refine C.g S6 at_177 200 rfl ?_
  by_cases u0 : 255 < c0
  · refine C.new S6 (W H 9 rfl) (W H 10 rfl) (W H 11 rfl) at_200 (layO0 H.1) (by decide) 203 rfl (leD rfl) (leD rfl) fun T7 b7 S7 => C.dup S7 at_203 204 rfl rfl <| C.a2 S7 at_204 rfl rfl <| C.xi (a := b7) S7 (W H 12 rfl) (W H 13 rfl) (W H 11 rfl) (W H 14 rfl) (si1_2_0 H b7 b4 c0 c1 u0 k0) at_206 pd42 [(.ref b4)] [(.ref b7)] [1, 0] rl0 ?_
    rintro T8 _ _ _ ⟨b9, rfl, rfl, rfl⟩ hro8 S8
    replace S8 := S8.nc (L' := [(b4, Ary Z .char [(.int c0), (.int c1)]), (b7, O0 Z (.int 1) (.ref b9)), (b9, Ary Z .byte [(.int (blo c0)), (.int (bhi c0)), (.int (blo c1)), (.int (bhi c1))])]) rfl
    exact s209_2 H hcp kA kB hU k0 k1 k2 (txU (cs := ([c0, c1] : List Int32)) H (leD rfl) (fun j => by match j with | 0 => exact k0 | 1 => exact k1 | n + 2 => exact chr0)) C ((((S8.frz [1, 2] rfl (by decide) 0 rfl (by decide)).frz [1] rfl (by decide) 0 rfl (by decide)).frz [] rfl (by decide) 0 rfl (by decide)).weak (leD rfl) (leD rfl))
  · have q0 := lat_of k0 u0
    by_cases u1 : 255 < c1
    · refine C.new S6 (W H 9 rfl) (W H 10 rfl) (W H 11 rfl) at_200 (layO0 H.1) (by decide) 203 rfl (leD rfl) (leD rfl) fun T10 b10 S10 => C.dup S10 at_203 204 rfl rfl <| C.a2 S10 at_204 rfl rfl <| C.xi (a := b10) S10 (W H 12 rfl) (W H 13 rfl) (W H 11 rfl) (W H 14 rfl) (si1_2_1 H b10 b4 c0 c1 q0 u1 k1) at_206 pd42 [(.ref b4)] [(.ref b10)] [1, 0] rl0 ?_
      rintro T11 _ _ _ ⟨b12, rfl, rfl, rfl⟩ hro11 S11
      replace S11 := S11.nc (L' := [(b4, Ary Z .char [(.int c0), (.int c1)]), (b10, O0 Z (.int 1) (.ref b12)), (b12, Ary Z .byte [(.int (blo c0)), (.int (bhi c0)), (.int (blo c1)), (.int (bhi c1))])]) rfl
      exact s209_2 H hcp kA kB hU k0 k1 k2 (txU (cs := ([c0, c1] : List Int32)) H (leD rfl) (fun j => by match j with | 0 => exact k0 | 1 => exact k1 | n + 2 => exact chr0)) C ((((S11.frz [1, 2] rfl (by decide) 0 rfl (by decide)).frz [1] rfl (by decide) 0 rfl (by decide)).frz [] rfl (by decide) 0 rfl (by decide)).weak (leD rfl) (leD rfl))
    · have q1 := lat_of k1 u1
      refine C.new S6 (W H 9 rfl) (W H 10 rfl) (W H 11 rfl) at_200 (layO0 H.1) (by decide) 203 rfl (leD rfl) (leD rfl) fun T13 b13 S13 => C.dup S13 at_203 204 rfl rfl <| C.a2 S13 at_204 rfl rfl <| C.xi (a := b13) S13 (W H 12 rfl) (W H 13 rfl) (W H 11 rfl) (W H 14 rfl) (strInit H b13 b4 [c0, c1] ⟨faS q0 (faS q1 (fa0)), leD rfl⟩ (leD rfl) (leD rfl)) at_206 pd42 [(.ref b4)] [(.ref b13)] [1, 0] rl0 ?_
      rintro T14 _ _ _ ⟨b15, rfl, rfl, rfl⟩ hro14 S14
      replace S14 := S14.nc (L' := [(b4, Ary Z .char [(.int c0), (.int c1)]), (b13, O0 Z (.int 0) (.ref b15)), (b15, Ary Z .byte [(.int c0.toInt8.toInt32), (.int c1.toInt8.toInt32)])]) rfl
      exact s209_2 H hcp kA kB hU k0 k1 k2 (txL (cs := ([c0, c1] : List Int32)) H (leD rfl) (fun j => by match j with | 0 => exact k0 | 1 => exact k1 | n + 2 => exact chr0) (fun j => by match j with | 0 => exact q0 | 1 => exact q1 | n + 2 => exact lat0)) C ((((S14.frz [1, 2] rfl (by decide) 0 rfl (by decide)).frz [1] rfl (by decide) 0 rfl (by decide)).frz [] rfl (by decide) 0 rfl (by decide)).weak (leD rfl) (leD rfl))
theorem s291_3 (H : Hy a0 Z cst dce nona sfv) {p0 p1 p2 p3 p4 cp sp9 uA uB c0 c1 c2 : Int32} {a t : Addr} {rp md : Int32} {o f pr : Addr} {r0 : Int32} (hcp : Cpt cp) (kA : Chr uA) (kB : Chr uB) (hU : ¬ cp < 65536 → Pr cp uA uB) (k0 : Chr c0) (k1 : Chr c1) (k2 : Chr c2) (hr : fG ([c0, c1, c2] : List Int32) cp 0 = r0)
    (C : Cx p s m meth c Z consts_1 x.cls code maxLocals ret x.name) (S0 : St p lch e room_1 s m #[(.int p0), (.int p1), (.int p2), (.int p3), (.int p4)] below meth c Z consts_1 h0 [] T0 [] [(a, Ary Z .char [(.int c0), (.int c1), (.int c2)])] 60 1500) :
    Go p e below (Qw room_1 s Z consts_1 h0 [] (fun rv L1 M1 => rv = some (.int 1) ∧ L1 = [] ∧ M1 = [])) (T0.setTop (mkF m 291 #[vi p0, vi p1, vi p2, vi p3, vi p4, vi cp, vi sp9, vi uA, vi uB, vi c0, vi c1, vi c2, vi 3, vr a, vr t, vi rp, vi md, vr o, vr f, vr pr, us, us] [(.int r0)])) := by
  refine C.istore S0 at_291 293 rfl #[vi p0, vi p1, vi p2, vi p3, vi p4, vi cp, vi sp9, vi uA, vi uB, vi c0, vi c1, vi c2, vi 3, vr a, vr t, vi rp, vi md, vr o, vr f, vr pr, vi r0, us] rfl <| C.a2 S0 at_293 rfl rfl <| C.i2 S0 at_295 rfl <| C.k1 S0 at_297 0 rfl <| C.i2 S0 at_298 rfl <| C.i2 S0 at_300 rfl <| C.i2 S0 at_302 rfl <| C.xs S0 (W H 314 rfl) (W H 315 rfl) (W H 5 rfl) (W H 316 rfl) (matZ H a [c0, c1, c2] cp uA uB (leD rfl) (leD rfl)) at_304 pd39 [(.ref a), (.int 3), (.int 0), (.int cp), (.int uA), (.int uB)] [] [] (rlN (S0.atM 0 rfl) rl0) ?_
  rintro T1 _ _ _ ⟨rfl, rfl, rfl⟩ hro1 S1
  replace S1 := S1.n0
  refine C.if_ne S1 at_307 344 310 (by decide) (by decide) rfl (fun hc2 => ?_) fun hc2 => ?_
  · refine C.k1 S1 at_344 1 rfl <| C.g S1 at_345 349 rfl <| C.istore S1 at_349 351 rfl #[vi p0, vi p1, vi p2, vi p3, vi p4, vi cp, vi sp9, vi uA, vi uB, vi c0, vi c1, vi c2, vi 3, vr a, vr t, vi rp, vi md, vr o, vr f, vr pr, vi r0, vi 1] rfl <| C.i2 S1 at_351 rfl <| C.i2 S1 at_353 rfl <| C.icmp_ne S1 at_355 362 358 (by decide) (by decide) rfl (fun hc3 => absurd (hr.symm.trans (fg3.trans ((pure3 hcp hU k0 k1 k2).trans (or_1 hc2)))) hc3) fun hc3 => C.k1 S1 at_358 1 rfl <| C.g S1 at_359 363 rfl ?_
    exact C.rN S1 at_363 1 (by decide) [] ⟨rfl, rfl, rfl⟩
  · refine C.a2 S1 at_310 rfl rfl <| C.i2 S1 at_312 rfl <| C.k1 S1 at_314 1 rfl <| C.i2 S1 at_315 rfl <| C.i2 S1 at_317 rfl <| C.i2 S1 at_319 rfl <| C.xs S1 (W H 314 rfl) (W H 315 rfl) (W H 5 rfl) (W H 316 rfl) (matS H a [c0, c1, c2] cp uA uB 0 (leD rfl) (leD rfl)) at_321 pd39 [(.ref a), (.int 3), (.int 1), (.int cp), (.int uA), (.int uB)] [] [] (rlN (S1.atM 0 rfl) rl0) ?_
    rintro T4 _ _ _ ⟨rfl, rfl, rfl⟩ hro4 S4
    replace S4 := S4.n0
    refine C.if_ne S4 at_324 344 327 (by decide) (by decide) rfl (fun hc5 => ?_) fun hc5 => ?_
    · refine C.k1 S4 at_344 1 rfl <| C.g S4 at_345 349 rfl <| C.istore S4 at_349 351 rfl #[vi p0, vi p1, vi p2, vi p3, vi p4, vi cp, vi sp9, vi uA, vi uB, vi c0, vi c1, vi c2, vi 3, vr a, vr t, vi rp, vi md, vr o, vr f, vr pr, vi r0, vi 1] rfl <| C.i2 S4 at_351 rfl <| C.i2 S4 at_353 rfl <| C.icmp_ne S4 at_355 362 358 (by decide) (by decide) rfl (fun hc6 => absurd (hr.symm.trans (fg3.trans ((pure3 hcp hU k0 k1 k2).trans (or_2 hc2 hc5)))) hc6) fun hc6 => C.k1 S4 at_358 1 rfl <| C.g S4 at_359 363 rfl ?_
      exact C.rN S4 at_363 1 (by decide) [] ⟨rfl, rfl, rfl⟩
    · refine C.a2 S4 at_327 rfl rfl <| C.i2 S4 at_329 rfl <| C.k1 S4 at_331 2 rfl <| C.i2 S4 at_332 rfl <| C.i2 S4 at_334 rfl <| C.i2 S4 at_336 rfl <| C.xs S4 (W H 314 rfl) (W H 315 rfl) (W H 5 rfl) (W H 316 rfl) (matS H a [c0, c1, c2] cp uA uB 1 (leD rfl) (leD rfl)) at_338 pd39 [(.ref a), (.int 3), (.int 2), (.int cp), (.int uA), (.int uB)] [] [] (rlN (S4.atM 0 rfl) rl0) ?_
      rintro T7 _ _ _ ⟨rfl, rfl, rfl⟩ hro7 S7
      replace S7 := S7.n0
      refine C.if_eq S7 at_341 348 344 (by decide) (by decide) rfl (fun hc8 => ?_) fun hc8 => ?_
      · refine C.k1 S7 at_348 0 rfl <| C.istore S7 at_349 351 rfl #[vi p0, vi p1, vi p2, vi p3, vi p4, vi cp, vi sp9, vi uA, vi uB, vi c0, vi c1, vi c2, vi 3, vr a, vr t, vi rp, vi md, vr o, vr f, vr pr, vi r0, vi 0] rfl <| C.i2 S7 at_351 rfl <| C.i2 S7 at_353 rfl <| C.icmp_ne S7 at_355 362 358 (by decide) (by decide) rfl (fun hc9 => absurd (hr.symm.trans (fg3.trans ((pure3 hcp hU k0 k1 k2).trans (or_0 hc2 hc5 hc8)))) hc9) fun hc9 => C.k1 S7 at_358 1 rfl <| C.g S7 at_359 363 rfl ?_
        exact C.rN S7 at_363 1 (by decide) [] ⟨rfl, rfl, rfl⟩
      · refine C.k1 S7 at_344 1 rfl <| C.g S7 at_345 349 rfl <| C.istore S7 at_349 351 rfl #[vi p0, vi p1, vi p2, vi p3, vi p4, vi cp, vi sp9, vi uA, vi uB, vi c0, vi c1, vi c2, vi 3, vr a, vr t, vi rp, vi md, vr o, vr f, vr pr, vi r0, vi 1] rfl <| C.i2 S7 at_351 rfl <| C.i2 S7 at_353 rfl <| C.icmp_ne S7 at_355 362 358 (by decide) (by decide) rfl (fun hc10 => absurd (hr.symm.trans (fg3.trans ((pure3 hcp hU k0 k1 k2).trans (or_3 hc2 hc5 hc8)))) hc10) fun hc10 => C.k1 S7 at_358 1 rfl <| C.g S7 at_359 363 rfl ?_
        exact C.rN S7 at_363 1 (by decide) [] ⟨rfl, rfl, rfl⟩
theorem s273_3P (H : Hy a0 Z cst dce nona sfv) {p0 p1 p2 p3 p4 cp sp9 uA uB c0 c1 c2 : Int32} {a t b : Addr} {PT PB : Cell → Prop} {rp md : Int32} {o bo g0 l1 hm l2 ga gb gc gd ge f : Addr} (hcp : Cpt cp) (kA : Chr uA) (kB : Chr uB) (hU : ¬ cp < 65536 → Pr cp uA uB) (k0 : Chr c0) (k1 : Chr c1) (k2 : Chr c2) (hT : Tx lch Z t b PT PB ([c0, c1, c2] : List Int32))
    (C : Cx p s m meth c Z consts_1 x.cls code maxLocals ret x.name) (S0 : St p lch e room_1 s m #[(.int p0), (.int p1), (.int p2), (.int p3), (.int p4)] below meth c Z consts_1 h0 [] T0 [(o, O3 Z (.ref bo) (.ref g0) (.ref l1) (.ref hm) (.ref l2) (.int 1) (.int 0)), (bo, Ary Z .byte ((.int 1) :: (.int 0) :: (.int 0) :: z13)), (g0, Ary Z (.array .int) [(.ref ga), (.ref gb), (.ref gc), (.ref gd), (.ref ge)]), (ga, Ary Z .int ((.int (-1)) :: (.int 0) :: (.int 0) :: z13)), (gb, Ary Z .int ((.int cp) :: (.int 0) :: (.int 0) :: z13)), (gc, Ary Z .int ((.int 0) :: (.int 0) :: (.int 0) :: z13)), (gd, Ary Z .int ((.int 0) :: (.int 0) :: (.int 0) :: z13)), (ge, Ary Z .int ((.int 0) :: (.int 0) :: (.int 0) :: z13)), (l1, O1 Z (.int 0) (.ref dce) (.int 0)), (l2, O1 Z (.int 0) (.ref dce) (.int 0)), (f, O4 Z (.int 0) (.int 0) (.int 0) (.int ((-1 : Int32) - cp)) (.int 1) (.int 1) (.int 1) (.int 1) (.int 0))] [(a, Ary Z .char [(.int c0), (.int c1), (.int c2)]), (t, PT), (b, PB)] 40 400) :
    Go p e below (Qw room_1 s Z consts_1 h0 [] (fun rv L1 M1 => rv = some (.int 1) ∧ L1 = [] ∧ M1 = [])) (T0.setTop (mkF m 273 #[vi p0, vi p1, vi p2, vi p3, vi p4, vi cp, vi sp9, vi uA, vi uB, vi c0, vi c1, vi c2, vi 3, vr a, vr t, vi rp, vi md, vr o, vr f, us, us, us] [])) := by
  refine C.a2 S0 at_273 rfl rfl <| C.a2 S0 at_275 rfl rfl <| C.k1 S0 at_277 0 rfl <| C.k1 S0 at_278 0 rfl <| C.xv S0 (S0.exa 0 rfl) (W H 137 rfl) (W H 138 rfl) (Or.inl ⟨_, (W H 140 rfl)⟩) (W H 140 rfl) (W H 139 rfl) (W H 32 rfl) (W H 141 rfl) (finP H o bo g0 l1 hm l2 ga gb gc gd ge cp f) at_279 pd40 [(.ref f), (.int 0), (.int 0)] [] [0, 1, 2, 3, 4, 5, 6, 7, 10, 8, 9] rl0 ?_
  rintro T1 _ _ _ ⟨pr2, po3, pn4, pa5, pb6, pcc7, pd8, plv9, rfl, rfl, rfl⟩ hro1 S1
  replace S1 := S1.nc (L' := [(o, O3 Z (.ref bo) (.ref g0) (.ref l1) (.ref hm) (.ref l2) (.int 2) (.int 0)), (bo, Ary Z .byte ((.int 1) :: (.int 21) :: (.int 0) :: z13)), (g0, Ary Z (.array .int) [(.ref ga), (.ref gb), (.ref gc), (.ref gd), (.ref ge)]), (ga, Ary Z .int ((.int 1) :: (.int (-1)) :: (.int 0) :: z13)), (gb, Ary Z .int ((.int cp) :: (.int 0) :: (.int 0) :: z13)), (gc, Ary Z .int ((.int 0) :: (.int 0) :: (.int 0) :: z13)), (gd, Ary Z .int ((.int 0) :: (.int 0) :: (.int 0) :: z13)), (ge, Ary Z .int ((.int 0) :: (.int 0) :: (.int 0) :: z13)), (l1, O1 Z (.int 0) (.ref dce) (.int 0)), (l2, O1 Z (.int 0) (.ref dce) (.int 0)), (f, O4 Z (.int 0) (.int (-1)) (.int (-1)) (.int ((-1 : Int32) - cp)) (.int 1) (.int 1) (.int 1) (.int 1) (.int 0)), (pr2, O5 Z (.ref po3) (.ref pn4) (.ref pa5) (.ref pb6) (.ref pcc7) (.ref pd8) (.ref plv9) (.int 0) .null (.int 0) (.int 0) (.int 0)), (po3, Ary Z .byte [(.int 1), (.int 21)]), (pn4, Ary Z .int [(.int 1), (.int (-1))]), (pa5, Ary Z .int [(.int cp), (.int 0)]), (pb6, Ary Z .int [(.int 0), (.int 0)]), (pcc7, Ary Z .int [(.int 0), (.int 0)])]) rfl
  refine C.astore S1 at_282 284 rfl rfl #[vi p0, vi p1, vi p2, vi p3, vi p4, vi cp, vi sp9, vi uA, vi uB, vi c0, vi c1, vi c2, vi 3, vr a, vr t, vi rp, vi md, vr o, vr f, vr pr2, us, us] rfl <| C.a2 S1 at_284 rfl rfl <| C.a2 S1 at_286 rfl rfl <| C.xv S1 (S1.exa 11 rfl) (W H 231 rfl) (W H 232 rfl) (Or.inl ⟨_, (W H 234 rfl)⟩) (W H 234 rfl) (W H 233 rfl) (W H 184 rfl) (W H 235 rfl) (prFP H pr2 t b PT PB ([c0, c1, c2] : List Int32) cp po3 pn4 pa5 pb6 pcc7 pd8 plv9 (fG ([c0, c1, c2] : List Int32) cp 0) hT (leD rfl) hcp rfl) at_288 pd41 [(.ref t)] [] [] (rlN (S1.atM 1 rfl) (rlN (S1.atM 2 rfl) (rlN (S1.at 11 rfl) (rlN (S1.at 12 rfl) (rlN (S1.at 13 rfl) (rlN (S1.at 14 rfl) (rlN (S1.at 15 rfl) (rlN (S1.at 16 rfl) rl0)))))))) ?_
  rintro T10 _ _ _ ⟨rfl, rfl, rfl⟩ hro10 S10
  replace S10 := S10.n0
  exact s291_3 H hcp kA kB hU k0 k1 k2 rfl C ((S10.pick [] [0] rfl rfl (by decide)).weak (leD rfl) (leD rfl))
theorem s273_3R (H : Hy a0 Z cst dce nona sfv) {p0 p1 p2 p3 p4 cp sp9 uA uB c0 c1 c2 : Int32} {a t b : Addr} {PT PB : Cell → Prop} {rp md : Int32} {o bo g0 l1 hm l2 ga gb gc gd ge f : Addr} {kd : Int32} (hcp : Cpt cp) (kA : Chr uA) (kB : Chr uB) (hU : ¬ cp < 65536 → Pr cp uA uB) (k0 : Chr c0) (k1 : Chr c1) (k2 : Chr c2) (hT : Tx lch Z t b PT PB ([c0, c1, c2] : List Int32)) (hk : kd = 6 ∨ kd = 7 ∨ kd = 8)
    (C : Cx p s m meth c Z consts_1 x.cls code maxLocals ret x.name) (S0 : St p lch e room_1 s m #[(.int p0), (.int p1), (.int p2), (.int p3), (.int p4)] below meth c Z consts_1 h0 [] T0 [(o, O3 Z (.ref bo) (.ref g0) (.ref l1) (.ref hm) (.ref l2) (.int 2) (.int 0)), (bo, Ary Z .byte ((.int 1) :: (.int kd) :: (.int 0) :: z13)), (g0, Ary Z (.array .int) [(.ref ga), (.ref gb), (.ref gc), (.ref gd), (.ref ge)]), (ga, Ary Z .int ((.int (-1)) :: (.int (-1)) :: (.int 0) :: z13)), (gb, Ary Z .int ((.int cp) :: (.int ((-1 : Int32) - cp)) :: (.int 0) :: z13)), (gc, Ary Z .int ((.int 0) :: (.int 1) :: (.int 0) :: z13)), (gd, Ary Z .int ((.int 0) :: (.int 1) :: (.int 0) :: z13)), (ge, Ary Z .int ((.int 0) :: (.int 0) :: (.int 0) :: z13)), (l1, O1 Z (.int 0) (.ref dce) (.int 0)), (l2, O1 Z (.int 0) (.ref dce) (.int 0)), (f, O4 Z (.int 1) (.int 2) (.int 2) (.int (-2147483648)) (.int 1) (.int 1) (.int 1) (.int 1) (.int 0))] [(a, Ary Z .char [(.int c0), (.int c1), (.int c2)]), (t, PT), (b, PB)] 40 400) :
    Go p e below (Qw room_1 s Z consts_1 h0 [] (fun rv L1 M1 => rv = some (.int 1) ∧ L1 = [] ∧ M1 = [])) (T0.setTop (mkF m 273 #[vi p0, vi p1, vi p2, vi p3, vi p4, vi cp, vi sp9, vi uA, vi uB, vi c0, vi c1, vi c2, vi 3, vr a, vr t, vi rp, vi md, vr o, vr f, us, us, us] [])) := by
  refine C.a2 S0 at_273 rfl rfl <| C.a2 S0 at_275 rfl rfl <| C.k1 S0 at_277 0 rfl <| C.k1 S0 at_278 0 rfl <| C.xv S0 (S0.exa 0 rfl) (W H 137 rfl) (W H 138 rfl) (Or.inl ⟨_, (W H 140 rfl)⟩) (W H 140 rfl) (W H 139 rfl) (W H 32 rfl) (W H 141 rfl) (finR H o bo g0 l1 hm l2 ga gb gc gd ge cp kd f hk) at_279 pd40 [(.ref f), (.int 0), (.int 0)] [] [0, 1, 2, 3, 4, 5, 6, 7, 10, 8, 9] rl0 ?_
  rintro T1 _ _ _ ⟨pr2, po3, pn4, pa5, pb6, pcc7, pd8, plv9, rfl, rfl, rfl⟩ hro1 S1
  replace S1 := S1.nc (L' := [(o, O3 Z (.ref bo) (.ref g0) (.ref l1) (.ref hm) (.ref l2) (.int 3) (.int 0)), (bo, Ary Z .byte ((.int 1) :: (.int kd) :: (.int 21) :: z13)), (g0, Ary Z (.array .int) [(.ref ga), (.ref gb), (.ref gc), (.ref gd), (.ref ge)]), (ga, Ary Z .int ((.int (-1)) :: (.int 2) :: (.int (-1)) :: z13)), (gb, Ary Z .int ((.int cp) :: (.int ((-1 : Int32) - cp)) :: (.int 0) :: z13)), (gc, Ary Z .int ((.int 0) :: (.int 1) :: (.int 0) :: z13)), (gd, Ary Z .int ((.int 0) :: (.int 1) :: (.int 0) :: z13)), (ge, Ary Z .int ((.int 0) :: (.int 0) :: (.int 0) :: z13)), (l1, O1 Z (.int 0) (.ref dce) (.int 0)), (l2, O1 Z (.int 0) (.ref dce) (.int 0)), (f, O4 Z (.int 1) (.int (-1)) (.int (-1)) (.int (-2147483648)) (.int 1) (.int 1) (.int 1) (.int 1) (.int 0)), (pr2, O5 Z (.ref po3) (.ref pn4) (.ref pa5) (.ref pb6) (.ref pcc7) (.ref pd8) (.ref plv9) (.int 1) .null (.int 0) (.int 0) (.int 0)), (po3, Ary Z .byte [(.int 1), (.int kd), (.int 21)]), (pn4, Ary Z .int [(.int (-1)), (.int 2), (.int (-1))]), (pa5, Ary Z .int [(.int cp), (.int ((-1 : Int32) - cp)), (.int 0)]), (pb6, Ary Z .int [(.int 0), (.int 1), (.int 0)]), (pcc7, Ary Z .int [(.int 0), (.int 1), (.int 0)])]) rfl
  refine C.astore S1 at_282 284 rfl rfl #[vi p0, vi p1, vi p2, vi p3, vi p4, vi cp, vi sp9, vi uA, vi uB, vi c0, vi c1, vi c2, vi 3, vr a, vr t, vi rp, vi md, vr o, vr f, vr pr2, us, us] rfl <| C.a2 S1 at_284 rfl rfl <| C.a2 S1 at_286 rfl rfl <| C.xv S1 (S1.exa 11 rfl) (W H 231 rfl) (W H 232 rfl) (Or.inl ⟨_, (W H 234 rfl)⟩) (W H 234 rfl) (W H 233 rfl) (W H 184 rfl) (W H 235 rfl) (prFR H pr2 t b PT PB ([c0, c1, c2] : List Int32) cp po3 pn4 pa5 pb6 pcc7 pd8 plv9 kd (fG ([c0, c1, c2] : List Int32) cp 0) hT (leD rfl) hcp hk rfl) at_288 pd41 [(.ref t)] [] [] (rlN (S1.atM 1 rfl) (rlN (S1.atM 2 rfl) (rlN (S1.at 11 rfl) (rlN (S1.at 12 rfl) (rlN (S1.at 13 rfl) (rlN (S1.at 14 rfl) (rlN (S1.at 15 rfl) (rlN (S1.at 16 rfl) rl0)))))))) ?_
  rintro T10 _ _ _ ⟨rfl, rfl, rfl⟩ hro10 S10
  replace S10 := S10.n0
  exact s291_3 H hcp kA kB hU k0 k1 k2 rfl C ((S10.pick [] [0] rfl rfl (by decide)).weak (leD rfl) (leD rfl))
theorem s209_3 (H : Hy a0 Z cst dce nona sfv) {p0 p1 p2 p3 p4 cp sp9 uA uB c0 c1 c2 : Int32} {a t b : Addr} {PT PB : Cell → Prop} (hcp : Cpt cp) (kA : Chr uA) (kB : Chr uB) (hU : ¬ cp < 65536 → Pr cp uA uB) (k0 : Chr c0) (k1 : Chr c1) (k2 : Chr c2) (hT : Tx lch Z t b PT PB ([c0, c1, c2] : List Int32))
    (C : Cx p s m meth c Z consts_1 x.cls code maxLocals ret x.name) (S0 : St p lch e room_1 s m #[(.int p0), (.int p1), (.int p2), (.int p3), (.int p4)] below meth c Z consts_1 h0 [] T0 [] [(a, Ary Z .char [(.int c0), (.int c1), (.int c2)]), (t, PT), (b, PB)] 6 40) :
    Go p e below (Qw room_1 s Z consts_1 h0 [] (fun rv L1 M1 => rv = some (.int 1) ∧ L1 = [] ∧ M1 = [])) (T0.setTop (mkF m 209 #[vi p0, vi p1, vi p2, vi p3, vi p4, vi cp, vi sp9, vi uA, vi uB, vi c0, vi c1, vi c2, vi 3, vr a, us, us, us, us, us, us, us, us] [(.ref t)])) := by
  refine C.astore S0 at_209 211 rfl rfl #[vi p0, vi p1, vi p2, vi p3, vi p4, vi cp, vi sp9, vi uA, vi uB, vi c0, vi c1, vi c2, vi 3, vr a, vr t, us, us, us, us, us, us, us] rfl <| C.i1 S0 at_211 rfl <| C.k2 S0 at_212 8 rfl <| C.ishr S0 at_214 215 rfl (p1 >>> ((8 : Int32) &&& 31)) rfl <| C.k1 S0 at_215 1 rfl <| C.iand S0 at_216 217 rfl ((p1 >>> ((8 : Int32) &&& 31)) &&& (1 : Int32)) rfl <| C.if_eq S0 at_217 224 220 (by decide) (by decide) rfl (fun hc1 => ?_) fun hc1 => ?_
  · refine C.k1 S0 at_224 0 rfl <| C.istore S0 at_225 227 rfl #[vi p0, vi p1, vi p2, vi p3, vi p4, vi cp, vi sp9, vi uA, vi uB, vi c0, vi c1, vi c2, vi 3, vr a, vr t, vi 0, us, us, us, us, us, us] rfl <| C.i1 S0 at_227 rfl <| C.k2 S0 at_228 9 rfl <| C.iushr S0 at_230 231 rfl (XT.ushr p1 (9 : Int32)) rfl <| C.k1 S0 at_231 3 rfl <| C.iand S0 at_232 233 rfl ((XT.ushr p1 (9 : Int32)) &&& (3 : Int32)) rfl <| C.k1 S0 at_233 3 rfl <| C.irem S0 at_234 235 rfl (by decide) (((XT.ushr p1 (9 : Int32)) &&& (3 : Int32)) % (3 : Int32)) rfl <| C.istore S0 at_235 237 rfl #[vi p0, vi p1, vi p2, vi p3, vi p4, vi cp, vi sp9, vi uA, vi uB, vi c0, vi c1, vi c2, vi 3, vr a, vr t, vi 0, vi (((XT.ushr p1 (9 : Int32)) &&& (3 : Int32)) % (3 : Int32)), us, us, us, us, us] rfl ?_
    exact s237P H hcp (fun S => s273_3P H hcp kA kB hU k0 k1 k2 hT C S) C S0
  · refine C.k1 S0 at_220 1 rfl <| C.g S0 at_221 225 rfl <| C.istore S0 at_225 227 rfl #[vi p0, vi p1, vi p2, vi p3, vi p4, vi cp, vi sp9, vi uA, vi uB, vi c0, vi c1, vi c2, vi 3, vr a, vr t, vi 1, us, us, us, us, us, us] rfl <| C.i1 S0 at_227 rfl <| C.k2 S0 at_228 9 rfl <| C.iushr S0 at_230 231 rfl (XT.ushr p1 (9 : Int32)) rfl <| C.k1 S0 at_231 3 rfl <| C.iand S0 at_232 233 rfl ((XT.ushr p1 (9 : Int32)) &&& (3 : Int32)) rfl <| C.k1 S0 at_233 3 rfl <| C.irem S0 at_234 235 rfl (by decide) (((XT.ushr p1 (9 : Int32)) &&& (3 : Int32)) % (3 : Int32)) rfl <| C.istore S0 at_235 237 rfl #[vi p0, vi p1, vi p2, vi p3, vi p4, vi cp, vi sp9, vi uA, vi uB, vi c0, vi c1, vi c2, vi 3, vr a, vr t, vi 1, vi (((XT.ushr p1 (9 : Int32)) &&& (3 : Int32)) % (3 : Int32)), us, us, us, us, us] rfl ?_
    exact s237R H hcp (own_mod3 _) (fun hk S => s273_3R H hcp kA kB hU k0 k1 k2 hT hk C S) C S0
theorem s124_3 (H : Hy a0 Z cst dce nona sfv) {p0 p1 p2 p3 p4 cp sp9 uA uB c0 c1 c2 : Int32} (hcp : Cpt cp) (kA : Chr uA) (kB : Chr uB) (hU : ¬ cp < 65536 → Pr cp uA uB) (k0 : Chr c0) (k1 : Chr c1) (k2 : Chr c2)
    (C : Cx p s m meth c Z consts_1 x.cls code maxLocals ret x.name) (S0 : St p lch e room_1 s m #[(.int p0), (.int p1), (.int p2), (.int p3), (.int p4)] below meth c Z consts_1 h0 [] T0 [] [] 0 0) :
    Go p e below (Qw room_1 s Z consts_1 h0 [] (fun rv L1 M1 => rv = some (.int 1) ∧ L1 = [] ∧ M1 = [])) (T0.setTop (mkF m 124 #[vi p0, vi p1, vi p2, vi p3, vi p4, vi cp, vi sp9, vi uA, vi uB, vi c0, vi c1, vi c2, vi 3, us, us, us, us, us, us, us, us, us] [])) := by
  refine C.i2 S0 at_124 rfl <| C.if_neT S0 at_126 137 rfl (by decide) <| C.i2 S0 at_137 rfl <| C.k1 S0 at_139 1 rfl <| C.icmp_neT S0 at_140 156 rfl (by decide) <| C.i2 S0 at_156 rfl <| C.k1 S0 at_158 2 rfl <| C.icmp_neT S0 at_159 180 rfl (by decide) <| C.k1 S0 at_180 3 rfl <| C.newarray (aty := .char) S0 (W H 8 rfl) at_181 183 rfl (by decide) 3 rfl 3 (leD rfl) (by decide) (leD rfl) (leD rfl) fun T4 b4 S4 => C.dup S4 at_183 184 rfl rfl <| C.k1 S4 at_184 0 rfl <| C.i2 S4 at_185 rfl <| C.castore S4 0 rfl at_187 188 rfl (by decide) 0 rfl (leD rfl) c0 (char_nar k0) fun T5 S5 => C.dup S5 at_188 189 rfl rfl <| C.k1 S5 at_189 1 rfl <| C.i2 S5 at_190 rfl <| C.castore S5 0 rfl at_192 193 rfl (by decide) 1 rfl (leD rfl) c1 (char_nar k1) fun T6 S6 => C.dup S6 at_193 194 rfl rfl <| C.k1 S6 at_194 2 rfl <| C.i2 S6 at_195 rfl <| C.castore S6 0 rfl at_197 198 rfl (by decide) 2 rfl (leD rfl) c2 (char_nar k2) fun T7 S7 => ?_
  refine C.astore S7 at_198 200 rfl rfl #[vi p0, vi p1, vi p2, vi p3, vi p4, vi cp, vi sp9, vi uA, vi uB, vi c0, vi c1, vi c2, vi 3, vr b4, us, us, us, us, us, us, us, us] rfl ?_
  by_cases u0 : 255 < c0
  · refine C.new S7 (W H 9 rfl) (W H 10 rfl) (W H 11 rfl) at_200 (layO0 H.1) (by decide) 203 rfl (leD rfl) (leD rfl) fun T8 b8 S8 => ?_
    replace S8 := S8.asL (L' := [(b4, Ary Z .char [(.int c0), (.int c1), (.int c2)]), (b8, O0 Z (.int 0) .null)]) rfl
    refine C.dup S8 at_203 204 rfl rfl <| C.a2 S8 at_204 rfl rfl <| C.xi (a := b8) S8 (W H 12 rfl) (W H 13 rfl) (W H 11 rfl) (W H 14 rfl) (si1_3_0 H b8 b4 c0 c1 c2 u0 k0) at_206 pd42 [(.ref b4)] [(.ref b8)] [1, 0] rl0 ?_
    rintro T9 _ _ _ ⟨b10, rfl, rfl, rfl⟩ hro9 S9
    replace S9 := S9.nc (L' := [(b4, Ary Z .char [(.int c0), (.int c1), (.int c2)]), (b8, O0 Z (.int 1) (.ref b10)), (b10, Ary Z .byte [(.int (blo c0)), (.int (bhi c0)), (.int (blo c1)), (.int (bhi c1)), (.int (blo c2)), (.int (bhi c2))])]) rfl
    exact s209_3 H hcp kA kB hU k0 k1 k2 (txU (cs := ([c0, c1, c2] : List Int32)) H (leD rfl) (fun j => by match j with | 0 => exact k0 | 1 => exact k1 | 2 => exact k2 | n + 3 => exact chr0)) C ((((S9.frz [1, 2] rfl (by decide) 0 rfl (by decide)).frz [1] rfl (by decide) 0 rfl (by decide)).frz [] rfl (by decide) 0 rfl (by decide)).weak (leD rfl) (leD rfl))
  · have q0 := lat_of k0 u0
    by_cases u1 : 255 < c1
    · refine C.new S7 (W H 9 rfl) (W H 10 rfl) (W H 11 rfl) at_200 (layO0 H.1) (by decide) 203 rfl (leD rfl) (leD rfl) fun T11 b11 S11 => ?_
      replace S11 := S11.asL (L' := [(b4, Ary Z .char [(.int c0), (.int c1), (.int c2)]), (b11, O0 Z (.int 0) .null)]) rfl
      refine C.dup S11 at_203 204 rfl rfl <| C.a2 S11 at_204 rfl rfl <| C.xi (a := b11) S11 (W H 12 rfl) (W H 13 rfl) (W H 11 rfl) (W H 14 rfl) (si1_3_1 H b11 b4 c0 c1 c2 q0 u1 k1) at_206 pd42 [(.ref b4)] [(.ref b11)] [1, 0] rl0 ?_
      rintro T12 _ _ _ ⟨b13, rfl, rfl, rfl⟩ hro12 S12
      replace S12 := S12.nc (L' := [(b4, Ary Z .char [(.int c0), (.int c1), (.int c2)]), (b11, O0 Z (.int 1) (.ref b13)), (b13, Ary Z .byte [(.int (blo c0)), (.int (bhi c0)), (.int (blo c1)), (.int (bhi c1)), (.int (blo c2)), (.int (bhi c2))])]) rfl
      exact s209_3 H hcp kA kB hU k0 k1 k2 (txU (cs := ([c0, c1, c2] : List Int32)) H (leD rfl) (fun j => by match j with | 0 => exact k0 | 1 => exact k1 | 2 => exact k2 | n + 3 => exact chr0)) C ((((S12.frz [1, 2] rfl (by decide) 0 rfl (by decide)).frz [1] rfl (by decide) 0 rfl (by decide)).frz [] rfl (by decide) 0 rfl (by decide)).weak (leD rfl) (leD rfl))
    · have q1 := lat_of k1 u1
      by_cases u2 : 255 < c2
      · refine C.new S7 (W H 9 rfl) (W H 10 rfl) (W H 11 rfl) at_200 (layO0 H.1) (by decide) 203 rfl (leD rfl) (leD rfl) fun T14 b14 S14 => ?_
        replace S14 := S14.asL (L' := [(b4, Ary Z .char [(.int c0), (.int c1), (.int c2)]), (b14, O0 Z (.int 0) .null)]) rfl
        refine C.dup S14 at_203 204 rfl rfl <| C.a2 S14 at_204 rfl rfl <| C.xi (a := b14) S14 (W H 12 rfl) (W H 13 rfl) (W H 11 rfl) (W H 14 rfl) (si1_3_2 H b14 b4 c0 c1 c2 q0 q1 u2 k2) at_206 pd42 [(.ref b4)] [(.ref b14)] [1, 0] rl0 ?_
        rintro T15 _ _ _ ⟨b16, rfl, rfl, rfl⟩ hro15 S15
        replace S15 := S15.nc (L' := [(b4, Ary Z .char [(.int c0), (.int c1), (.int c2)]), (b14, O0 Z (.int 1) (.ref b16)), (b16, Ary Z .byte [(.int (blo c0)), (.int (bhi c0)), (.int (blo c1)), (.int (bhi c1)), (.int (blo c2)), (.int (bhi c2))])]) rfl
        exact s209_3 H hcp kA kB hU k0 k1 k2 (txU (cs := ([c0, c1, c2] : List Int32)) H (leD rfl) (fun j => by match j with | 0 => exact k0 | 1 => exact k1 | 2 => exact k2 | n + 3 => exact chr0)) C ((((S15.frz [1, 2] rfl (by decide) 0 rfl (by decide)).frz [1] rfl (by decide) 0 rfl (by decide)).frz [] rfl (by decide) 0 rfl (by decide)).weak (leD rfl) (leD rfl))
      · have q2 := lat_of k2 u2
        refine C.new S7 (W H 9 rfl) (W H 10 rfl) (W H 11 rfl) at_200 (layO0 H.1) (by decide) 203 rfl (leD rfl) (leD rfl) fun T17 b17 S17 => ?_
        replace S17 := S17.asL (L' := [(b4, Ary Z .char [(.int c0), (.int c1), (.int c2)]), (b17, O0 Z (.int 0) .null)]) rfl
        refine C.dup S17 at_203 204 rfl rfl <| C.a2 S17 at_204 rfl rfl <| C.xi (a := b17) S17 (W H 12 rfl) (W H 13 rfl) (W H 11 rfl) (W H 14 rfl) (strInit H b17 b4 [c0, c1, c2] ⟨faS q0 (faS q1 (faS q2 (fa0))), leD rfl⟩ (leD rfl) (leD rfl)) at_206 pd42 [(.ref b4)] [(.ref b17)] [1, 0] rl0 ?_
        rintro T18 _ _ _ ⟨b19, rfl, rfl, rfl⟩ hro18 S18
        replace S18 := S18.nc (L' := [(b4, Ary Z .char [(.int c0), (.int c1), (.int c2)]), (b17, O0 Z (.int 0) (.ref b19)), (b19, Ary Z .byte [(.int c0.toInt8.toInt32), (.int c1.toInt8.toInt32), (.int c2.toInt8.toInt32)])]) rfl
        exact s209_3 H hcp kA kB hU k0 k1 k2 (txL (cs := ([c0, c1, c2] : List Int32)) H (leD rfl) (fun j => by match j with | 0 => exact k0 | 1 => exact k1 | 2 => exact k2 | n + 3 => exact chr0) (fun j => by match j with | 0 => exact q0 | 1 => exact q1 | 2 => exact q2 | n + 3 => exact lat0)) C ((((S18.frz [1, 2] rfl (by decide) 0 rfl (by decide)).frz [1] rfl (by decide) 0 rfl (by decide)).frz [] rfl (by decide) 0 rfl (by decide)).weak (leD rfl) (leD rfl))
theorem pd43 : parseMethodDescriptor "(ICCI)C" = some ⟨[.int, .char, .char, .int], some .char⟩ := by decide +kernel
theorem s72 (H : Hy a0 Z cst dce nona sfv) {p0 p1 p2 p3 p4 cp sp9 uA uB : Int32} (hcp : Cpt cp) (kA : Chr uA) (kB : Chr uB) (hU : ¬ cp < 65536 → Pr cp uA uB)
    (C : Cx p s m meth c Z consts_1 x.cls code maxLocals ret x.name) (S0 : St p lch e room_1 s m #[(.int p0), (.int p1), (.int p2), (.int p3), (.int p4)] below meth c Z consts_1 h0 [] T0 [] [] 0 0) :
    Go p e below (Qw room_1 s Z consts_1 h0 [] (fun rv L1 M1 => rv = some (.int 1) ∧ L1 = [] ∧ M1 = [])) (T0.setTop (mkF m 72 #[vi p0, vi p1, vi p2, vi p3, vi p4, vi cp, vi sp9, vi uA, vi uB, us, us, us, us, us, us, us, us, us, us, us, us, us] [])) := by
  refine C.i1 S0 at_72 rfl <| C.k1 S0 at_73 3 rfl <| C.iand S0 at_74 75 rfl (p1 &&& (3 : Int32)) rfl <| C.i2 S0 at_75 rfl <| C.i2 S0 at_77 rfl <| C.i1 S0 at_79 rfl <| C.xs S0 (W H 3 rfl) (W H 4 rfl) (W H 5 rfl) (W H 6 rfl) (drawC H (p1 &&& (3 : Int32)) uA uB p2 kA kB) at_80 pd43 [(.int (p1 &&& (3 : Int32))), (.int uA), (.int uB), (.int p2)] [] [] rl0 ?_
  rintro T1 _ _ _ ⟨rfl, rfl, rfl⟩ hro1 S1
  replace S1 := S1.n0
  refine C.istore S1 at_83 85 rfl #[vi p0, vi p1, vi p2, vi p3, vi p4, vi cp, vi sp9, vi uA, vi uB, vi (drw (p1 &&& (3 : Int32)) uA uB p2), us, us, us, us, us, us, us, us, us, us, us, us] rfl <| C.i1 S1 at_85 rfl <| C.k1 S1 at_86 2 rfl <| C.ishr S1 at_87 88 rfl (p1 >>> ((2 : Int32) &&& 31)) rfl <| C.k1 S1 at_88 3 rfl <| C.iand S1 at_89 90 rfl ((p1 >>> ((2 : Int32) &&& 31)) &&& (3 : Int32)) rfl <| C.i2 S1 at_90 rfl <| C.i2 S1 at_92 rfl <| C.i1 S1 at_94 rfl <| C.xs S1 (W H 3 rfl) (W H 4 rfl) (W H 5 rfl) (W H 6 rfl) (drawC H ((p1 >>> ((2 : Int32) &&& 31)) &&& (3 : Int32)) uA uB p3 kA kB) at_95 pd43 [(.int ((p1 >>> ((2 : Int32) &&& 31)) &&& (3 : Int32))), (.int uA), (.int uB), (.int p3)] [] [] rl0 ?_
  rintro T2 _ _ _ ⟨rfl, rfl, rfl⟩ hro2 S2
  replace S2 := S2.n0
  refine C.istore S2 at_98 100 rfl #[vi p0, vi p1, vi p2, vi p3, vi p4, vi cp, vi sp9, vi uA, vi uB, vi (drw (p1 &&& (3 : Int32)) uA uB p2), vi (drw ((p1 >>> ((2 : Int32) &&& 31)) &&& (3 : Int32)) uA uB p3), us, us, us, us, us, us, us, us, us, us, us] rfl <| C.i1 S2 at_100 rfl <| C.k1 S2 at_101 4 rfl <| C.ishr S2 at_102 103 rfl (p1 >>> ((4 : Int32) &&& 31)) rfl <| C.k1 S2 at_103 3 rfl <| C.iand S2 at_104 105 rfl ((p1 >>> ((4 : Int32) &&& 31)) &&& (3 : Int32)) rfl <| C.i2 S2 at_105 rfl <| C.i2 S2 at_107 rfl <| C.i2 S2 at_109 rfl <| C.xs S2 (W H 3 rfl) (W H 4 rfl) (W H 5 rfl) (W H 6 rfl) (drawC H ((p1 >>> ((4 : Int32) &&& 31)) &&& (3 : Int32)) uA uB p4 kA kB) at_111 pd43 [(.int ((p1 >>> ((4 : Int32) &&& 31)) &&& (3 : Int32))), (.int uA), (.int uB), (.int p4)] [] [] rl0 ?_
  rintro T3 _ _ _ ⟨rfl, rfl, rfl⟩ hro3 S3
  replace S3 := S3.n0
  refine C.istore S3 at_114 116 rfl #[vi p0, vi p1, vi p2, vi p3, vi p4, vi cp, vi sp9, vi uA, vi uB, vi (drw (p1 &&& (3 : Int32)) uA uB p2), vi (drw ((p1 >>> ((2 : Int32) &&& 31)) &&& (3 : Int32)) uA uB p3), vi (drw ((p1 >>> ((4 : Int32) &&& 31)) &&& (3 : Int32)) uA uB p4), us, us, us, us, us, us, us, us, us, us] rfl <| C.i1 S3 at_116 rfl <| C.k2 S3 at_117 6 rfl <| C.ishr S3 at_119 120 rfl (p1 >>> ((6 : Int32) &&& 31)) rfl <| C.k1 S3 at_120 3 rfl <| C.iand S3 at_121 122 rfl ((p1 >>> ((6 : Int32) &&& 31)) &&& (3 : Int32)) rfl <| C.istore S3 at_122 124 rfl #[vi p0, vi p1, vi p2, vi p3, vi p4, vi cp, vi sp9, vi uA, vi uB, vi (drw (p1 &&& (3 : Int32)) uA uB p2), vi (drw ((p1 >>> ((2 : Int32) &&& 31)) &&& (3 : Int32)) uA uB p3), vi (drw ((p1 >>> ((4 : Int32) &&& 31)) &&& (3 : Int32)) uA uB p4), vi ((p1 >>> ((6 : Int32) &&& 31)) &&& (3 : Int32)), us, us, us, us, us, us, us, us, us] rfl ?_
  have k0 : Chr (drw (p1 &&& (3 : Int32)) uA uB p2) := drw_chr kA kB
  have k1 : Chr (drw ((p1 >>> ((2 : Int32) &&& 31)) &&& (3 : Int32)) uA uB p3) := drw_chr kA kB
  have k2 : Chr (drw ((p1 >>> ((4 : Int32) &&& 31)) &&& (3 : Int32)) uA uB p4) := drw_chr kA kB
  rcases and3 (p1 >>> ((6 : Int32) &&& 31)) with h | h | h | h <;> rw [h]
  · exact s124_0 H hcp kA kB hU k0 k1 k2 C S3
  · exact s124_1 H hcp kA kB hU k0 k1 k2 C S3
  · exact s124_2 H hcp kA kB hU k0 k1 k2 C S3
  · exact s124_3 H hcp kA kB hU k0 k1 k2 C S3
theorem s9 (H : Hy a0 Z cst dce nona sfv) {p0 p1 p2 p3 p4 cp : Int32} (hcp : Cpt cp)
    (C : Cx p s m meth c Z consts_1 x.cls code maxLocals ret x.name) (S0 : St p lch e room_1 s m #[(.int p0), (.int p1), (.int p2), (.int p3), (.int p4)] below meth c Z consts_1 h0 [] T0 [] [] 0 0) :
    Go p e below (Qw room_1 s Z consts_1 h0 [] (fun rv L1 M1 => rv = some (.int 1) ∧ L1 = [] ∧ M1 = [])) (T0.setTop (mkF m 9 #[vi p0, vi p1, vi p2, vi p3, vi p4, vi cp, us, us, us, us, us, us, us, us, us, us, us, us, us, us, us, us] [])) := by
  refine C.i2 S0 at_9 rfl <| C.ldcInt S0 (W H 2 rfl) at_11 13 rfl <| C.icmp_lt S0 at_13 20 16 (by decide) (by decide) rfl (fun hc1 => ?_) fun hc1 => ?_
  · refine C.k1 S0 at_20 0 rfl <| C.istore S0 at_21 23 rfl #[vi p0, vi p1, vi p2, vi p3, vi p4, vi cp, vi 0, us, us, us, us, us, us, us, us, us, us, us, us, us, us, us] rfl <| C.i2 S0 at_23 rfl <| C.if_eqT S0 at_25 60 rfl (by decide) <| C.i2 S0 at_60 rfl <| C.i2c S0 at_62 63 rfl (cp.toUInt32.toUInt16.toUInt32.toInt32) rfl <| C.istore S0 at_63 65 rfl #[vi p0, vi p1, vi p2, vi p3, vi p4, vi cp, vi 0, vi (cp.toUInt32.toUInt16.toUInt32.toInt32), us, us, us, us, us, us, us, us, us, us, us, us, us, us] rfl <| C.i2 S0 at_65 rfl <| C.k1 S0 at_67 1 rfl <| C.ixor S0 at_68 69 rfl (cp ^^^ (1 : Int32)) rfl <| C.i2c S0 at_69 70 rfl ((cp ^^^ (1 : Int32)).toUInt32.toUInt16.toUInt32.toInt32) rfl <| C.istore S0 at_70 72 rfl #[vi p0, vi p1, vi p2, vi p3, vi p4, vi cp, vi 0, vi (cp.toUInt32.toUInt16.toUInt32.toInt32), vi ((cp ^^^ (1 : Int32)).toUInt32.toUInt16.toUInt32.toInt32), us, us, us, us, us, us, us, us, us, us, us, us, us] rfl ?_
    exact s72 H hcp (i2c_chr _) (i2c_chr _) (fun q => absurd hc1 q) C S0
  · refine C.k1 S0 at_16 1 rfl <| C.g S0 at_17 21 rfl <| C.istore S0 at_21 23 rfl #[vi p0, vi p1, vi p2, vi p3, vi p4, vi cp, vi 1, us, us, us, us, us, us, us, us, us, us, us, us, us, us, us] rfl <| C.i2 S0 at_23 rfl <| C.if_eqF S0 at_25 28 rfl (by decide) <| C.ldcInt S0 (W H 317 rfl) at_28 30 rfl <| C.i2 S0 at_30 rfl <| C.ldcInt S0 (W H 2 rfl) at_32 34 rfl <| C.isub S0 at_34 35 rfl (cp - (65536 : Int32)) rfl <| C.k2 S0 at_35 10 rfl <| C.ishr S0 at_37 38 rfl ((cp - (65536 : Int32)) >>> ((10 : Int32) &&& 31)) rfl <| C.iadd S0 at_38 39 rfl ((55296 : Int32) + ((cp - (65536 : Int32)) >>> ((10 : Int32) &&& 31))) rfl <| C.i2c S0 at_39 40 rfl (((55296 : Int32) + ((cp - (65536 : Int32)) >>> ((10 : Int32) &&& 31))).toUInt32.toUInt16.toUInt32.toInt32) rfl <| C.istore S0 at_40 42 rfl #[vi p0, vi p1, vi p2, vi p3, vi p4, vi cp, vi 1, vi (((55296 : Int32) + ((cp - (65536 : Int32)) >>> ((10 : Int32) &&& 31))).toUInt32.toUInt16.toUInt32.toInt32), us, us, us, us, us, us, us, us, us, us, us, us, us, us] rfl ?_
    refine C.ldcInt S0 (W H 409 rfl) at_42 44 rfl <| C.i2 S0 at_44 rfl <| C.ldcInt S0 (W H 2 rfl) at_46 48 rfl <| C.isub S0 at_48 49 rfl (cp - (65536 : Int32)) rfl <| C.k3 S0 at_49 1023 rfl <| C.iand S0 at_52 53 rfl ((cp - (65536 : Int32)) &&& (1023 : Int32)) rfl <| C.iadd S0 at_53 54 rfl ((56320 : Int32) + ((cp - (65536 : Int32)) &&& (1023 : Int32))) rfl <| C.i2c S0 at_54 55 rfl (((56320 : Int32) + ((cp - (65536 : Int32)) &&& (1023 : Int32))).toUInt32.toUInt16.toUInt32.toInt32) rfl <| C.istore S0 at_55 57 rfl #[vi p0, vi p1, vi p2, vi p3, vi p4, vi cp, vi 1, vi (((55296 : Int32) + ((cp - (65536 : Int32)) >>> ((10 : Int32) &&& 31))).toUInt32.toUInt16.toUInt32.toInt32), vi (((56320 : Int32) + ((cp - (65536 : Int32)) &&& (1023 : Int32))).toUInt32.toUInt16.toUInt32.toInt32), us, us, us, us, us, us, us, us, us, us, us, us, us] rfl <| C.g S0 at_57 72 rfl ?_
    exact s72 H hcp (i2c_chr _) (i2c_chr _) (fun _ => pair_of hcp hc1) C S0
theorem law0 (H : Hy a0 Z cst dce nona sfv) {p0 p1 p2 p3 p4 : Int32}
    (C : Cx p s m meth c Z consts_1 x.cls code maxLocals ret x.name) (S0 : St p lch e room_1 s m #[(.int p0), (.int p1), (.int p2), (.int p3), (.int p4)] below meth c Z consts_1 h0 [] T0 [] [] 0 0) :
    Go p e below (Qw room_1 s Z consts_1 h0 [] (fun rv L1 M1 => rv = some (.int 1) ∧ L1 = [] ∧ M1 = [])) (T0.setTop (mkF m 0 #[vi p0, vi p1, vi p2, vi p3, vi p4, us, us, us, us, us, us, us, us, us, us, us, us, us, us, us, us, us] [])) := by
  refine C.i1 S0 at_0 rfl <| C.ldcInt S0 (W H 0 rfl) at_1 3 rfl <| C.iand S0 at_3 4 rfl (p0 &&& (2147483647 : Int32)) rfl <| C.ldcInt S0 (W H 1 rfl) at_4 6 rfl <| C.irem S0 at_6 7 rfl (by decide) ((p0 &&& (2147483647 : Int32)) % (1114112 : Int32)) rfl <| C.istore S0 at_7 9 rfl #[vi p0, vi p1, vi p2, vi p3, vi p4, vi ((p0 &&& (2147483647 : Int32)) % (1114112 : Int32)), us, us, us, us, us, us, us, us, us, us, us, us, us, us, us, us] rfl ?_
  exact s9 H (cpt_of p0) C S0
theorem ef_law {p0 p1 p2 p3 p4 : Int32} (m : MethodId) : entryFrame m #[(.int p0), (.int p1), (.int p2), (.int p3), (.int p4)] maxLocals = mkF m 0 #[.val (.int p0), .val (.int p1), .val (.int p2), .val (.int p3), .val (.int p4), .unset, .unset, .unset, .unset, .unset, .unset, .unset, .unset, .unset, .unset, .unset, .unset, .unset, .unset, .unset, .unset, .unset] [] := by first | (simp [entryFrame, mkF, argsToLocals, Value.category, maxLocals]; done) | rfl
theorem law (H : Hy a0 Z cst dce nona sfv) (p0 : Int32) (p1 : Int32) (p2 : Int32) (p3 : Int32) (p4 : Int32) : Con lch Z consts_1 x code maxLocals ret room_1 #[(.int p0), (.int p1), (.int p2), (.int p3), (.int p4)] [] [] (fun rv L1 M1 => rv = some (.int 1) ∧ L1 = [] ∧ M1 = []) := by
  refine Con.of_body (plainFor_of_name pn2) (fun m => ef_law m) ?_
  intro p e s m below meth c T0 h0 C S0
  exact law0 H C S0
theorem sta_int {Z : State} {args : Array Value} {C n d : String} {x : Int32} (h : (Cond.eq (.static C n d) (.int x)).value args Z none Z [] = some true) : (Term.static C n d).eval args Z none [] Z = some (.int x) := by
  obtain ⟨u, w, e1, e2, k1, k2⟩ := cmp_v (Or.inl h)
  cases e2.symm.trans (Term.int_eval x)
  obtain ⟨z, rfl⟩ := k2
  have e4 := gotT (Cond.eq_ints e1 (Term.int_eval x)) h
  subst e4
  exact e1
theorem old_ary {Z : State} {args : Array Value} {t : Term} {a : Addr} {ty : FieldType} {vs : List Value} {n : Int32} (hf : Fit Z) (ev : t.eval args Z none [] Z = some (.ref a)) (h1 : (Cond.arrayOf t ty).value args Z none Z [] = some true) (h2 : (Cond.eq (.length t) (.int n)).value args Z none Z [] = some true) (hn : ¬ n < 0) (hl : n.toNatClampNeg = vs.length)
    (H : ∀ cl, Z.heap[a]? = some cl → HasL cl 0 vs) : ∃ c, Z.heap[a]? = some c ∧ Ary Z ty vs c := by
  obtain ⟨cl, A⟩ := Arr.start ev h1
  obtain ⟨x, y, ex, ey, -⟩ := cmp_v (Or.inl h2)
  obtain ⟨a', cl', e1, e2, rfl⟩ := Term.length_spec ex
  cases ev.symm.trans e1
  have e3 : cl' = cl := Option.some.inj (e2.symm.trans (A.fin (Vm.Alike.refl _)))
  subst e3
  have e4 := gotT (Cond.eq_ints ex (Term.int_eval n)) h2
  have hz : cl'.slots.size < 2 ^ 31 := by
    by_cases q : cl'.slots.size < 2 ^ 31
    · exact q
    · exfalso; simp [Term.eval, ev, e2, q] at ex
  exact arv_ary (Arv.start (dv := .null) hf A hz e4 hn hl (H _ A.1)) hl
theorem isRef_v {Z : State} {args : Array Value} {t : Term} (h : (Cond.isRef t).value args Z none Z [] = some true) : ∃ v : Value, t.eval args Z none [] Z = some v ∧ (v = .null ∨ ∃ fa, v = .ref fa) := by
  simp only [Cond.value] at h
  cases hv : t.eval args Z none [] Z with
  | none => simp [hv] at h
  | some v => cases v <;> simp_all
end Walks
set_option maxRecDepth 65536 in
set_option maxHeartbeats 40000000 in
theorem comes_1 {Post : Tables → Env → Array Value → State → Outcome → State → Prop} (hpost : ∀ tb e args s v u, (limb_1_1.after args s (.returned v) u = true ∧ limb_1_2.after args s (.returned v) u = true ∧ True) → FramedW s (.returned v) u (Jvm.fieldLocs frame_1_writes args s ++ Jvm.arrayLocs frame_1_arrays args s ++ Jvm.staticLocs frame_1_statics s) 64 1536 → Post tb e args s (.returned v) u) :
    ArmFor flags0 classFile x code maxLocals ret World_1 tables_1 room_1 Calls_1 rest_1 Pre_1 Post := by
  intro l hfl _ _ p e ha hc hk s m args below hf hA hF happ hP
  obtain ⟨hcalls, hrest, hpre⟩ := hP
  obtain ⟨-, -, -, hnamed, -, -, -, hat⟩ := (Spec.applies_iff hf).mp happ
  obtain ⟨hg, hn⟩ := and_e (Cond.before_iff.mp (show (Jvm.Cond.and given_1 narrow_1).before args s = true from hpre))
  obtain ⟨h1, h2⟩ := and_e hg
  obtain ⟨w0, w1, w2, w3, w4, rfl⟩ : ∃ w0 w1 w2 w3 w4 : Value, args = #[w0, w1, w2, w3, w4] := by
    have hs : args.size = 5 := by simpa [Cond.value, given_1] using h1
    obtain ⟨L⟩ := args
    match L, hs with
    | [w0, w1, w2, w3, w4], _ => exact ⟨w0, w1, w2, w3, w4, rfl⟩
  obtain ⟨g0, h3⟩ := and_e h2
  obtain ⟨g1, h4⟩ := and_e h3
  obtain ⟨g2, h5⟩ := and_e h4
  obtain ⟨g3, h6⟩ := and_e h5
  have g4 := h6
  obtain ⟨i0, e0⟩ := is_v g0
  obtain rfl : w0 = (.int i0) := Option.some.inj e0
  obtain ⟨i1, e1⟩ := is_v g1
  obtain rfl : w1 = (.int i1) := Option.some.inj e1
  obtain ⟨i2, e2⟩ := is_v g2
  obtain rfl : w2 = (.int i2) := Option.some.inj e2
  obtain ⟨i3, e3⟩ := is_v g3
  obtain rfl : w3 = (.int i3) := Option.some.inj e3
  obtain ⟨i4, e4⟩ := is_v g4
  obtain rfl : w4 = (.int i4) := Option.some.inj e4
  have hw : Hw _ s := fun d (hd : d ∈ tables_1) => Jvm.LawKit.atoms_spec (ws := Jvm.Cond.code x code maxLocals ret :: tables_1) hat d (List.mem_cons_of_mem _ hd)
  obtain ⟨hsets, hown0⟩ := atoms_of _ (rest_1_c_eq ▸ (show rest_1_c.before _ s = true from hrest))
  have hfit : Fit s := fun {y c} hc i hi => by
    obtain ⟨ha, rfl⟩ := Array.getElem?_eq_some_iff.mp hc
    have q := List.all_eq_true.mp ((Array.all_eq_true_iff_forall_mem.mp hF) _ (Array.getElem_mem ha)) i (List.mem_range.mpr hi)
    simpa [Array.getElem?_eq_getElem hi] using q
  have nCS := not_v (Cond.before_iff.mp (hsets _ (List.mem_of_getElem? (i := 11) rfl)))
  obtain ⟨iCS, eCS⟩ := is_v (Cond.before_iff.mp (hsets _ (List.mem_of_getElem? (i := 10) rfl)))
  have hCS : Sta s s.heap "java/lang/String" "COMPACT_STRINGS" "Z" (.int iCS) := Sta.start eCS (Or.inl (hsets _ (List.mem_of_getElem? (i := 9) rfl)))
  have hcs : ¬ (iCS = (0 : Int32)) := gotF (Cond.eq_ints eCS (Term.int_eval (0))) nCS
  obtain ⟨n_a, n_l⟩ := and_e hn
  obtain ⟨nona, evN⟩ := arr_v n_a
  obtain ⟨dce, evD⟩ := arr_v (Cond.before_iff.mp (hsets _ (List.mem_of_getElem? (i := 6) rfl)))
  obtain ⟨sfv, evF, cF⟩ := isRef_v (Cond.before_iff.mp (hsets _ (List.mem_of_getElem? (i := 17) rfl)))
  have gl : Gl s dce nona sfv := ⟨Sta.start evD (Or.inr ⟨(W0 hw 46 rfl), hsets _ (List.mem_of_getElem? (i := 2) rfl)⟩), old_ary hfit evD (Cond.before_iff.mp (hsets _ (List.mem_of_getElem? (i := 6) rfl))) (Cond.before_iff.mp (hsets _ (List.mem_of_getElem? (i := 8) rfl))) (by decide) rfl (fun _ _ => trivial),
    Sta.start evN (Or.inr ⟨(W0 hw 184 rfl), (W0 hw 246 rfl)⟩), old_ary hfit evN n_a n_l (by decide) rfl (fun _ _ => trivial), Sta.start evF (Or.inl (hsets _ (List.mem_of_getElem? (i := 16) rfl))), cF,
    Sta.start (sta_int (Cond.before_iff.mp (hsets _ (List.mem_of_getElem? (i := 21) rfl)))) (Or.inl (hsets _ (List.mem_of_getElem? (i := 20) rfl))), Sta.start (sta_int (Cond.before_iff.mp (hsets _ (List.mem_of_getElem? (i := 24) rfl)))) (Or.inl (hsets _ (List.mem_of_getElem? (i := 23) rfl))), Sta.start (sta_int (Cond.before_iff.mp (hsets _ (List.mem_of_getElem? (i := 27) rfl)))) (Or.inl (hsets _ (List.mem_of_getElem? (i := 26) rfl)))⟩
  have hEW : EW s _ consts_1 := (EW.cons (W0 hw 22 rfl) (by decide) EW.nil)
  have hCH : CHv s consts_1 s.vm s.heap := CHv.start hEW (fun p hp => hcalls.1 p hp) (hsets _ (List.mem_of_getElem? (i := 11) rfl)) (W0 hw 23 rfl) (W0 hw 10 rfl)
  obtain ⟨n, o, k1, k2, k3, _, Lc, rfl, ⟨N, -, -, -, L1, M1, ⟨rfl, -, -⟩, -⟩, hq⟩ := law ⟨hw, hCS, hcs, gl⟩  i0 i1 i2 i3 i4 tables_1 s.heap s.vm (Old.start s) (Good.nil _ _) (fun _ q => nomatch q) ⟨_, hEW⟩ p e ha hc hk s m _ below hf ((Spec.applies_iff_loose hf).mp happ).1 ⟨rfl, State.Warmed39.refl s, rfl, CHr.refl hCH⟩ trivial
  refine ⟨n, _, k1, k2, k3, hpost _ _ _ _ _ _ ⟨Cond.after_iff.mpr rfl, Cond.after_iff.mpr (eq_i res_at (Term.int_eval (1)) rfl), trivial⟩ ⟨hq.1, hq.2.1, hq.2.2.1, (hq.2.2.2.sift fun y hy => Or.inr (N y hy)).mono (by decide) (by decide)⟩⟩
theorem main_1_1 : Claimed_1_1 := comes_1 fun _ _ _ _ _ _ h hF => ⟨h.1, hF⟩
theorem main_1_2 : Claimed_1_2 := comes_1 fun _ _ _ _ _ _ h hF => ⟨h.2.1, hF⟩
end Jvm.Pilot.@@N@@
namespace Jvm.Pilot.@@N@@
open Jvm Jvm.ClassFile Sem Op Lib Jvm.Free Jvm.Stand Jvm.Pilot.@@N@@.Jvm.D
/-! MADE BY PROGRAM (witnessworld.py) out of the Statement's table words and the real class files: 41 classes; the members and pool entries that the words name. The judged class is class 1, her method 1. -/
namespace start1
open Jvm.ClassFile
def u (s : String) : CpInfo := .utf8 (stringToUtf16 s)
/-- a pool by its gaps: so many unusable entries, then the entry; so many at the end -/
def gap : Nat → List CpInfo → List CpInfo
  | 0, r => r
  | n + 1, r => .unusable :: gap n r
def poolList (es : List (Nat × CpInfo)) (last : Nat) : List CpInfo := es.foldr (fun e r => gap e.1 (e.2 :: r)) (gap last [])
def pool (es : List (Nat × CpInfo)) (last : Nat) : Array CpInfo := ⟨poolList es last⟩
def fileOf (pool : Array CpInfo) (this : Nat) (attrs : Array Attribute := #[]) (ms : Array MethodInfo := #[]) (fl : Nat := 33) (sup : Nat := 0) (ifs : Array Nat := #[]) (fds : Array FieldInfo := #[]) : ClassFile where
  minorVersion := 0
  majorVersion := 65
  constantPool := pool
  accessFlags := fl
  thisClass := this
  superClass := sup
  interfaces := ifs
  fields := fds
  methods := ms
  attributes := attrs
def mi (a n d : Nat) : MethodInfo := { accessFlags := a, nameIndex := n, descriptorIndex := d, attributes := #[] }
def fi (a n d : Nat) : FieldInfo := { accessFlags := a, nameIndex := n, descriptorIndex := d, attributes := #[] }
def fl (n : String) (t : FieldType) (a s c : Nat) : Field := { name := n, type := t, accessFlags := a, slot := s, constantValue := c }
def cd (s l : Nat) (c : ByteArray) : Code := { maxStack := s, maxLocals := l, code := c, exceptionTable := #[], attributes := #[] }
def mt (n d : String) (ps : List FieldType) (r : Option FieldType) (a : Nat) (c : Code) : Method := { name := n, desc := d, sig := { parameters := ps, returnType := r }, accessFlags := a, code := some c }
def plain (name : String) (sup : Option ClassId) : Class where
  name := name
  kind := .ordinary
  loader := none
  accessFlags := 33
  super := sup
  interfaces := #[]
  cf := none
  fields := #[]
  methods := #[]
  instanceTypes := #[]
  staticTypes := #[]
  resolved := #[]
  callSites := []
  init := .initialized
  statics := none
  mirror := none

def pool0 : Array CpInfo := pool [(5, u "<init>"), (0, u "()V"), (1, .class_ 10), (1, u "java/lang/Object")] 113

def k0c0 : Code := cd 0 1 object_method_1_code
def k0m0 : Method := mt "<init>" "()V" [] (none) 1 k0c0
/-- java/lang/Object -/
def k0 : Class := { plain "java/lang/Object" none with
  cf := some (fileOf pool0 8 #[] #[(mi 1 5 6)] 33 0 #[] #[])
  methods := #[k0m0]
  resolved := Array.replicate 124 none
  statics := none }

def pool1 : Array CpInfo := pool [(2, .class_ 4), (0, .nameAndType 5 6), (0, u "java/lang/Object"), (0, u "<init>"), (0, u "()V"), (0, .integer 2147483647), (0, .integer 1114112), (0, .integer 65536), (0, .integer 55296), (0, .integer 56320), (0, .methodref 13 14), (0, .class_ 15), (0, .nameAndType 16 17), (0, u "com/example/honest_errors/honesterrors/jsonschema/RegexAssemblerLiteralPinLaw"), (0, u "draw"), (0, u "(ICCI)C"), (0, .class_ 19), (0, u "java/lang/String"), (0, .methodref 18 21), (0, .nameAndType 5 22), (0, u "([C)V"), (0, .class_ 24), (0, u "com/example/honest_errors/honesterrors/jsonschema/RegexAssembler"), (0, .methodref 23 3), (0, .methodref 23 27), (0, .nameAndType 28 29), (0, u "literal"), (0, u "(I)Lcom/example/honest_errors/honesterrors/jsonschema/RegexAssembler$Fragment;"), (0, .methodref 23 31), (0, .nameAndType 32 33), (0, u "quantify"), (0, u "(Lcom/example/honest_errors/honesterrors/jsonschema/RegexAssembler$Fragment;III)Lcom/example/honest_errors/honesterrors/jsonschema/RegexAssembler$Fragment;"), (0, .methodref 23 35), (0, .nameAndType 36 37), (0, u "finish"), (0, u "(Lcom/example/honest_errors/honesterrors/jsonschema/RegexAssembler$Fragment;ZI)Lcom/example/honest_errors/honesterrors/jsonschema/RegexProgram;"), (0, .methodref 39 40), (0, .class_ 41), (0, .nameAndType 42 43), (0, u "com/example/honest_errors/honesterrors/jsonschema/RegexProgram"), (0, u "find"), (0, u "(Ljava/lang/String;)Z"), (0, .methodref 13 45), (0, .nameAndType 46 47), (0, u "matchesAt"), (0, u "([CIIICC)Z"), (0, .integer 65535), (0, .integer 56319), (0, .integer 57343), (0, .methodref 13 52), (0, .nameAndType 53 54), (0, u "isHigh"), (0, u "(C)Z"), (0, .methodref 13 56), (0, .nameAndType 57 54), (0, u "isLow"), (2, u "law"), (0, u "(IIIII)Z")] 9

def k1m0 : Method := { name := "<init>", desc := "()V", sig := { parameters := [], returnType := none }, accessFlags := 1, code := none }
def k1c1 : Code := cd 6 22 code
def k1m1 : Method := mt "law" "(IIIII)Z" [.int, .int, .int, .int, .int] (some .boolean) 9 k1c1
def k1c2 : Code := cd 3 5 method_3_code
def k1m2 : Method := mt "draw" "(ICCI)C" [.int, .char, .char, .int] (some .char) 10 k1c2
def k1c3 : Code := cd 2 1 method_4_code
def k1m3 : Method := mt "isHigh" "(C)Z" [.char] (some .boolean) 10 k1c3
def k1c4 : Code := cd 2 1 method_5_code
def k1m4 : Method := mt "isLow" "(C)Z" [.char] (some .boolean) 10 k1c4
def k1c5 : Code := cd 3 9 method_6_code
def k1m5 : Method := mt "matchesAt" "([CIIICC)Z" [(.array .char), .int, .int, .int, .char, .char] (some .boolean) 10 k1c5
/-- com/example/honest_errors/honesterrors/jsonschema/RegexAssemblerLiteralPinLaw -/
def k1 : Class := { plain "com/example/honest_errors/honesterrors/jsonschema/RegexAssemblerLiteralPinLaw" (some 0) with
  accessFlags := 49
  cf := some (fileOf pool1 13 #[] #[(mi 1 5 6), (mi 9 60 61), (mi 10 16 17), (mi 10 53 54), (mi 10 57 54), (mi 10 46 47)] 49 2 #[] #[])
  methods := #[k1m0, k1m1, k1m2, k1m3, k1m4, k1m5]
  resolved := Array.replicate 71 none
  statics := none }

def pool2 : Array CpInfo := pool [(1, .class_ 2), (0, u "java/io/Serializable"), (0, .class_ 4), (0, u "java/lang/Object")] 2

/-- java/io/Serializable -/
def k2 : Class := { plain "java/io/Serializable" (some 0) with
  accessFlags := 1537
  cf := some (fileOf pool2 1 #[] #[] 1537 3 #[] #[])
  resolved := Array.replicate 7 none
  statics := none }

def pool3 : Array CpInfo := pool [(1, .class_ 2), (0, u "java/lang/Comparable"), (0, .class_ 4), (0, u "java/lang/Object")] 7

/-- java/lang/Comparable -/
def k3 : Class := { plain "java/lang/Comparable" (some 0) with
  accessFlags := 1537
  cf := some (fileOf pool3 1 #[] #[] 1537 3 #[] #[])
  resolved := Array.replicate 12 none
  statics := none }

def pool4 : Array CpInfo := pool [(2, .class_ 4), (1, u "java/lang/CharSequence"), (42, .class_ 48), (0, u "java/lang/CharSequence$1CodePointIterator"), (10, .class_ 60), (0, u "java/lang/CharSequence$1CharIterator"), (5, .class_ 67), (0, u "java/lang/Object")] 63

/-- java/lang/CharSequence -/
def k4 : Class := { plain "java/lang/CharSequence" (some 0) with
  accessFlags := 1537
  cf := some (fileOf pool4 2 #[.nestMembers #[47, 59]] #[] 1537 66 #[] #[])
  resolved := Array.replicate 131 none
  statics := none }

def pool5 : Array CpInfo := pool [(1, .class_ 2), (0, u "java/lang/constant/Constable"), (0, .class_ 4), (0, u "java/lang/Object")] 6

/-- java/lang/constant/Constable -/
def k5 : Class := { plain "java/lang/constant/Constable" (some 0) with
  accessFlags := 1537
  cf := some (fileOf pool5 1 #[] #[] 1537 3 #[] #[])
  resolved := Array.replicate 11 none
  statics := none }

def pool6 : Array CpInfo := pool [(1, .class_ 2), (0, u "java/lang/constant/ConstantDesc"), (0, .class_ 4), (0, u "java/lang/Object")] 32

/-- java/lang/constant/ConstantDesc -/
def k6 : Class := { plain "java/lang/constant/ConstantDesc" (some 0) with
  accessFlags := 1537
  cf := some (fileOf pool6 1 #[] #[] 1537 3 #[] #[])
  resolved := Array.replicate 37 none
  statics := none }

def pool7 : Array CpInfo := pool [(1, .methodref 2 3), (0, .class_ 4), (0, .nameAndType 5 6), (0, u "java/lang/Object"), (0, u "<init>"), (0, u "()V"), (0, .string 8), (0, u ""), (0, .fieldref 10 11), (0, .class_ 12), (0, .nameAndType 13 14), (0, u "java/lang/String"), (0, u "value"), (0, u "[B"), (0, .fieldref 10 16), (0, .nameAndType 17 18), (0, u "coder"), (0, u "B"), (2, u "hash"), (0, u "I"), (2, u "hashIsZero"), (0, u "Z"), (0, .methodref 10 28), (0, .nameAndType 5 29), (0, u "([CIILjava/lang/Void;)V"), (8, .fieldref 10 39), (0, .nameAndType 40 26), (0, u "COMPACT_STRINGS"), (1, .class_ 44), (1, u "java/lang/StringUTF16"), (0, u "compress"), (1, .methodref 42 48), (0, .nameAndType 49 50), (0, u "coderFromArrayLen"), (0, u "([BI)B"), (46, u "([BII)I"), (9, .class_ 109), (1, u "java/lang/StringLatin1"), (32, u "()Z"), (34, .methodref 42 178), (0, .nameAndType 45 179), (0, u "([CII)[B"), (154, u "()I"), (0, .methodref 10 336), (0, .nameAndType 17 337), (0, u "()B"), (25, u "([BI)C"), (27, u "(II)V"), (35, u "(I)C"), (64, .methodref 10 493), (0, .nameAndType 494 142), (0, u "isLatin1"), (0, .methodref 107 496), (0, .nameAndType 497 363), (0, u "charAt"), (0, .methodref 42 496), (0, .methodref 10 500), (0, .nameAndType 501 391), (0, u "checkIndex"), (0, .methodref 42 503), (0, .nameAndType 504 97), (0, u "codePointAt"), (2, u "length"), (67, .class_ 576), (0, u "java/lang/CharSequence"), (22, u "CASE_INSENSITIVE_ORDER"), (0, u "Ljava/util/Comparator;"), (164, u "(I)I"), (244, u "([C)V"), (42, .fieldref 1054 1055), (0, .class_ 1056), (0, .nameAndType 1057 1058), (0, u "jdk/internal/util/Preconditions"), (0, u "SIOOBE_FORMATTER"), (0, u "Ljava/util/function/BiFunction;"), (0, .methodref 1054 1060), (0, .nameAndType 501 1061), (0, u "(IILjava/util/function/BiFunction;)I"), (39, u "serialPersistentFields"), (0, u "[Ljava/io/ObjectStreamField;"), (0, .class_ 1104), (0, u "java/lang/String$CaseInsensitiveComparator"), (1, .class_ 1107), (0, u "java/io/Serializable"), (0, .class_ 1109), (0, u "java/lang/Comparable"), (0, .class_ 1111), (0, u "java/lang/constant/Constable"), (0, .class_ 1113), (0, u "java/lang/constant/ConstantDesc"), (2, u "serialVersionUID"), (0, u "J"), (3, u "REPL"), (0, u "C"), (2, u "LATIN1"), (1, u "UTF16")] 323

def k7m0 : Method := { name := "<init>", desc := "()V", sig := { parameters := [], returnType := none }, accessFlags := 1, code := none }
def k7c1 : Code := cd 5 2 jdk_42_method_3_code
def k7m1 : Method := mt "<init>" "([C)V" [(.array .char)] (none) 1 k7c1
def k7c2 : Code := cd 2 1 jdk_42_method_54_code
def k7m2 : Method := mt "length" "()I" [] (some .int) 1 k7c2
def k7c3 : Code := cd 2 2 jdk_42_method_56_code
def k7m3 : Method := mt "charAt" "(I)C" [.int] (some .char) 1 k7c3
def k7c4 : Code := cd 3 3 jdk_42_method_57_code
def k7m4 : Method := mt "codePointAt" "(I)I" [.int] (some .int) 1 k7c4
def k7c5 : Code := cd 4 6 jdk_42_method_149_code
def k7m5 : Method := mt "<init>" "([CIILjava/lang/Void;)V" [(.array .char), .int, .int, (.object "java/lang/Void")] (none) 2 k7c5
def k7c6 : Code := cd 1 1 jdk_42_method_152_code
def k7m6 : Method := mt "coder" "()B" [] (some .byte) 0 k7c6
def k7c7 : Code := cd 1 1 jdk_42_method_154_code
def k7m7 : Method := mt "isLatin1" "()Z" [] (some .boolean) 0 k7c7
def k7c8 : Code := cd 3 2 jdk_42_method_155_code
def k7m8 : Method := mt "checkIndex" "(II)V" [.int, .int] (none) 8 k7c8
/-- java/lang/String -/
def k7 : Class := { plain "java/lang/String" (some 0) with
  accessFlags := 49
  interfaces := #[2, 3, 4, 5, 6]
  cf := some (fileOf pool7 10 #[.nestMembers #[1103]] #[(mi 1 5 6), (mi 1 5 1010), (mi 1 507 334), (mi 1 497 427), (mi 1 504 765), (mi 2 5 29), (mi 0 17 337), (mi 0 494 142), (mi 8 501 391)] 49 2 #[1106, 1108, 575, 1110, 1112] #[(fi 18 13 14), (fi 18 17 18), (fi 2 21 22), (fi 2 25 26), (fi 26 1116 1117), (fi 24 40 26), (fi 26 1101 1102), (fi 26 1121 1122), (fi 25 599 600), (fi 24 1125 18), (fi 24 1127 18)])
  fields := #[(fl "value" (.array .byte) 18 0 0), (fl "coder" .byte 18 1 0), (fl "hash" .int 2 2 0), (fl "hashIsZero" .boolean 2 3 0), (fl "serialVersionUID" .long 26 0 0), (fl "COMPACT_STRINGS" .boolean 24 1 0), (fl "serialPersistentFields" (.array (.object "java/io/ObjectStreamField")) 26 2 0), (fl "REPL" .char 26 3 0), (fl "CASE_INSENSITIVE_ORDER" (.object "java/util/Comparator") 25 4 0), (fl "LATIN1" .byte 24 5 0), (fl "UTF16" .byte 24 6 0)]
  methods := #[k7m0, k7m1, k7m2, k7m3, k7m4, k7m5, k7m6, k7m7, k7m8]
  instanceTypes := #[(.array .byte), .byte, .int, .boolean]
  staticTypes := #[.long, .boolean, (.array (.object "java/io/ObjectStreamField")), .char, (.object "java/util/Comparator"), .byte, .byte]
  resolved := Array.replicate 1451 none
  statics := some 0 }

def pool8 : Array CpInfo := pool [(3, .methodref 4 5), (0, .class_ 6), (0, .nameAndType 7 8), (0, u "java/lang/Object"), (0, u "<init>"), (0, u "()V"), (0, .fieldref 10 11), (0, .class_ 12), (0, .nameAndType 13 14), (0, u "com/example/honest_errors/honesterrors/jsonschema/RegexAssembler"), (0, u "op"), (0, u "[B"), (0, .class_ 16), (0, u "[[I"), (0, .fieldref 10 18), (0, .nameAndType 19 16), (0, u "operands"), (0, .class_ 21), (0, u "java/util/ArrayList"), (0, .methodref 20 5), (0, .fieldref 10 24), (0, .nameAndType 25 26), (0, u "leaves"), (0, u "Ljava/util/List;"), (0, .class_ 28), (0, u "java/util/HashMap"), (0, .methodref 27 5), (0, .fieldref 10 31), (0, .nameAndType 32 33), (0, u "leafIndex"), (0, u "Ljava/util/Map;"), (0, .fieldref 10 35), (0, .nameAndType 36 26), (0, u "rememberingLoops"), (0, .class_ 38), (0, u "com/example/honest_errors/honesterrors/jsonschema/RegexAssembler$Fragment"), (0, .methodref 37 5), (0, .class_ 41), (0, u "com/example/honest_errors/honesterrors/jsonschema/RegexProgram"), (0, .methodref 10 43), (0, .nameAndType 44 45), (0, u "node"), (0, u "(BIIII)I"), (0, .methodref 10 47), (0, .nameAndType 48 49), (0, u "single"), (0, u "(I)Lcom/example/honest_errors/honesterrors/jsonschema/RegexAssembler$Fragment;"), (0, .fieldref 37 51), (0, .nameAndType 52 53), (0, u "minLength"), (0, u "I"), (0, .fieldref 37 55), (0, .nameAndType 56 53), (0, u "maxLength"), (0, .fieldref 37 58), (0, .nameAndType 59 60), (0, u "consumes"), (0, u "Z"), (0, .fieldref 37 62), (0, .nameAndType 63 53), (0, u "atom"), (4, .fieldref 37 69), (0, .nameAndType 70 60), (0, u "deterministic"), (4, .fieldref 37 76), (0, .nameAndType 77 53), (0, u "entry"), (0, .methodref 10 79), (0, .nameAndType 80 81), (0, u "addHole"), (0, u "(Lcom/example/honest_errors/honesterrors/jsonschema/RegexAssembler$Fragment;I)V"), (0, .fieldref 37 83), (0, .nameAndType 84 60), (0, u "lineEnding"), (0, .methodref 10 86), (0, .nameAndType 87 81), (0, u "patch"), (0, .fieldref 37 89), (0, .nameAndType 90 53), (0, u "holes"), (0, .fieldref 37 92), (0, .nameAndType 93 53), (0, u "lastHole"), (4, .class_ 100), (1, u "java/util/List"), (28, .methodref 10 130), (0, .nameAndType 131 132), (0, u "program"), (0, u "(Lcom/example/honest_errors/honesterrors/jsonschema/RegexAssembler$Fragment;)I"), (4, .integer 2147483648), (0, .methodref 10 139), (0, .nameAndType 140 141), (0, u "run"), (0, u "(Lcom/example/honest_errors/honesterrors/jsonschema/RegexAssembler$Fragment;III)Lcom/example/honest_errors/honesterrors/jsonschema/RegexAssembler$Fragment;"), (4, .methodref 10 147), (0, .nameAndType 148 141), (0, u "quantify"), (23, .fieldref 10 173), (0, .nameAndType 174 53), (0, u "nodes"), (0, .methodref 10 176), (0, .nameAndType 177 178), (0, u "skipNops"), (0, u "(I)I"), (0, .methodref 10 180), (0, .nameAndType 181 182), (0, u "leadsToNode"), (0, u "(B)Z"), (0, .interfaceMethodref 98 184), (0, .nameAndType 185 186), (0, u "isEmpty"), (0, u "()Z"), (1, .class_ 190), (1, u "java/util/Arrays"), (1, .class_ 193), (0, u "[I"), (0, .methodref 188 195), (0, .nameAndType 196 197), (0, u "copyOf"), (0, u "([II)[I"), (0, .methodref 188 199), (0, .nameAndType 196 200), (0, u "([BI)[B"), (0, .class_ 202), (0, u "com/example/honest_errors/honesterrors/jsonschema/RegexLeaf"), (0, .interfaceMethodref 98 204), (0, .nameAndType 205 206), (0, u "toArray"), (0, u "([Ljava/lang/Object;)[Ljava/lang/Object;"), (0, .class_ 208), (0, u "[Lcom/example/honest_errors/honesterrors/jsonschema/RegexLeaf;"), (0, .fieldref 10 210), (0, .nameAndType 211 53), (0, u "registers"), (0, .methodref 40 213), (0, .nameAndType 7 214), (0, u "([B[[I[Lcom/example/honest_errors/honesterrors/jsonschema/RegexLeaf;I[IIII)V"), (31, u "UNBOUNDED"), (1, u "GREEDY"), (1, u "LAZY"), (1, u "POSSESSIVE"), (1, u "NO_ATOM"), (0, u "LINE_BREAK"), (0, u "Ljava/lang/String;"), (8, u "literal"), (21, u "finish"), (0, u "(Lcom/example/honest_errors/honesterrors/jsonschema/RegexAssembler$Fragment;ZI)Lcom/example/honest_errors/honesterrors/jsonschema/RegexProgram;")] 22

def k8c0 : Code := cd 3 1 prog_28_method_1_code
def k8m0 : Method := mt "<init>" "()V" [] (none) 0 k8c0
def k8c1 : Code := cd 7 3 prog_28_method_3_code
def k8m1 : Method := mt "literal" "(I)Lcom/example/honest_errors/honesterrors/jsonschema/RegexAssembler$Fragment;" [.int] (some (.object "com/example/honest_errors/honesterrors/jsonschema/RegexAssembler$Fragment")) 0 k8c1
def k8c2 : Code := cd 6 7 prog_28_method_19_code
def k8m2 : Method := mt "quantify" "(Lcom/example/honest_errors/honesterrors/jsonschema/RegexAssembler$Fragment;III)Lcom/example/honest_errors/honesterrors/jsonschema/RegexAssembler$Fragment;" [(.object "com/example/honest_errors/honesterrors/jsonschema/RegexAssembler$Fragment"), .int, .int, .int] (some (.object "com/example/honest_errors/honesterrors/jsonschema/RegexAssembler$Fragment")) 0 k8c2
def k8c3 : Code := cd 10 11 prog_28_method_23_code
def k8m3 : Method := mt "finish" "(Lcom/example/honest_errors/honesterrors/jsonschema/RegexAssembler$Fragment;ZI)Lcom/example/honest_errors/honesterrors/jsonschema/RegexProgram;" [(.object "com/example/honest_errors/honesterrors/jsonschema/RegexAssembler$Fragment"), .boolean, .int] (some (.object "com/example/honest_errors/honesterrors/jsonschema/RegexProgram")) 0 k8c3
def k8c4 : Code := cd 7 7 prog_28_method_24_code
def k8m4 : Method := mt "run" "(Lcom/example/honest_errors/honesterrors/jsonschema/RegexAssembler$Fragment;III)Lcom/example/honest_errors/honesterrors/jsonschema/RegexAssembler$Fragment;" [(.object "com/example/honest_errors/honesterrors/jsonschema/RegexAssembler$Fragment"), .int, .int, .int] (some (.object "com/example/honest_errors/honesterrors/jsonschema/RegexAssembler$Fragment")) 2 k8c4
def k8c5 : Code := cd 6 3 prog_28_method_29_code
def k8m5 : Method := mt "program" "(Lcom/example/honest_errors/honesterrors/jsonschema/RegexAssembler$Fragment;)I" [(.object "com/example/honest_errors/honesterrors/jsonschema/RegexAssembler$Fragment")] (some .int) 2 k8c5
def k8c6 : Code := cd 4 3 prog_28_method_30_code
def k8m6 : Method := mt "single" "(I)Lcom/example/honest_errors/honesterrors/jsonschema/RegexAssembler$Fragment;" [.int] (some (.object "com/example/honest_errors/honesterrors/jsonschema/RegexAssembler$Fragment")) 2 k8c6
def k8c7 : Code := cd 4 8 prog_28_method_32_code
def k8m7 : Method := mt "node" "(BIIII)I" [.byte, .int, .int, .int, .int] (some .int) 2 k8c7
def k8c8 : Code := cd 2 1 prog_28_method_33_code
def k8m8 : Method := mt "leadsToNode" "(B)Z" [.byte] (some .boolean) 10 k8c8
def k8c9 : Code := cd 3 5 prog_28_method_34_code
def k8m9 : Method := mt "skipNops" "(I)I" [.int] (some .int) 2 k8c9
def k8c10 : Code := cd 3 3 prog_28_method_36_code
def k8m10 : Method := mt "addHole" "(Lcom/example/honest_errors/honesterrors/jsonschema/RegexAssembler$Fragment;I)V" [(.object "com/example/honest_errors/honesterrors/jsonschema/RegexAssembler$Fragment"), .int] (none) 2 k8c10
def k8c11 : Code := cd 3 5 prog_28_method_38_code
def k8m11 : Method := mt "patch" "(Lcom/example/honest_errors/honesterrors/jsonschema/RegexAssembler$Fragment;I)V" [(.object "com/example/honest_errors/honesterrors/jsonschema/RegexAssembler$Fragment"), .int] (none) 2 k8c11
/-- com/example/honest_errors/honesterrors/jsonschema/RegexAssembler -/
def k8 : Class := { plain "com/example/honest_errors/honesterrors/jsonschema/RegexAssembler" (some 0) with
  accessFlags := 32
  cf := some (fileOf pool8 10 #[.nestMembers #[37]] #[(mi 0 7 8), (mi 0 265 49), (mi 0 148 141), (mi 0 287 288), (mi 2 140 141), (mi 2 131 132), (mi 2 48 49), (mi 2 44 45), (mi 10 181 182), (mi 2 177 178), (mi 2 80 81), (mi 2 87 81)] 32 4 #[] #[(fi 24 246 53), (fi 24 248 53), (fi 24 250 53), (fi 24 252 53), (fi 26 254 53), (fi 26 255 256), (fi 2 13 14), (fi 2 19 16), (fi 2 174 53), (fi 18 25 26), (fi 18 32 33), (fi 2 211 53), (fi 18 36 26)])
  fields := #[(fl "UNBOUNDED" .int 24 0 0), (fl "GREEDY" .int 24 1 0), (fl "LAZY" .int 24 2 0), (fl "POSSESSIVE" .int 24 3 0), (fl "NO_ATOM" .int 26 4 0), (fl "LINE_BREAK" (.object "java/lang/String") 26 5 0), (fl "op" (.array .byte) 2 0 0), (fl "operands" (.array (.array .int)) 2 1 0), (fl "nodes" .int 2 2 0), (fl "leaves" (.object "java/util/List") 18 3 0), (fl "leafIndex" (.object "java/util/Map") 18 4 0), (fl "registers" .int 2 5 0), (fl "rememberingLoops" (.object "java/util/List") 18 6 0)]
  methods := #[k8m0, k8m1, k8m2, k8m3, k8m4, k8m5, k8m6, k8m7, k8m8, k8m9, k8m10, k8m11]
  instanceTypes := #[(.array .byte), (.array (.array .int)), .int, (.object "java/util/List"), (.object "java/util/Map"), .int, (.object "java/util/List")]
  staticTypes := #[.int, .int, .int, .int, .int, (.object "java/lang/String")]
  resolved := Array.replicate 37 none ++ #[some (.cls 21)] ++ Array.replicate 1 none ++ #[some (.method ⟨21, 0⟩)] ++ Array.replicate 10 none ++ #[some (.field 21 3)] ++ Array.replicate 3 none ++ #[some (.field 21 4)] ++ Array.replicate 2 none ++ #[some (.field 21 5)] ++ Array.replicate 3 none ++ #[some (.field 21 6)] ++ Array.replicate 6 none ++ #[some (.field 21 7)] ++ Array.replicate 6 none ++ #[some (.field 21 0)] ++ Array.replicate 6 none ++ #[some (.field 21 8)] ++ Array.replicate 5 none ++ #[some (.field 21 1)] ++ Array.replicate 2 none ++ #[some (.field 21 2)] ++ Array.replicate 219 none
  statics := none }

def pool9 : Array CpInfo := pool [(8, .class_ 10), (1, u "java/lang/Iterable"), (24, .class_ 36), (0, u "java/lang/Object")] 25

/-- java/lang/Iterable -/
def k9 : Class := { plain "java/lang/Iterable" (some 0) with
  accessFlags := 1537
  cf := some (fileOf pool9 8 #[] #[] 1537 35 #[] #[])
  resolved := Array.replicate 62 none
  statics := none }

def pool10 : Array CpInfo := pool [(10, .class_ 12), (1, u "java/util/Collection"), (47, .class_ 61), (0, u "java/lang/Object"), (0, .class_ 63), (0, u "java/lang/Iterable")] 51

/-- java/util/Collection -/
def k10 : Class := { plain "java/util/Collection" (some 0) with
  accessFlags := 1537
  interfaces := #[9]
  cf := some (fileOf pool10 10 #[] #[] 1537 60 #[62] #[])
  resolved := Array.replicate 115 none
  statics := none }

def pool11 : Array CpInfo := pool [(1, .methodref 2 3), (0, .class_ 4), (0, .nameAndType 5 6), (0, u "java/lang/Object"), (0, u "<init>"), (0, u "()V"), (1, .class_ 10), (1, u "java/util/AbstractCollection"), (66, .class_ 78), (0, u "java/util/Collection")] 81

def k11c0 : Code := cd 1 1 jdk_22_method_1_code
def k11m0 : Method := mt "<init>" "()V" [] (none) 4 k11c0
/-- java/util/AbstractCollection -/
def k11 : Class := { plain "java/util/AbstractCollection" (some 0) with
  accessFlags := 1057
  interfaces := #[10]
  cf := some (fileOf pool11 8 #[] #[(mi 4 5 6)] 1057 2 #[77] #[])
  methods := #[k11m0]
  resolved := Array.replicate 160 none
  statics := none }

def pool12 : Array CpInfo := pool [(8, .class_ 10), (1, u "java/util/SequencedCollection"), (15, .class_ 27), (0, u "java/lang/Object"), (0, .class_ 29), (0, u "java/util/Collection")] 27

/-- java/util/SequencedCollection -/
def k12 : Class := { plain "java/util/SequencedCollection" (some 0) with
  accessFlags := 1537
  interfaces := #[10]
  cf := some (fileOf pool12 8 #[] #[] 1537 26 #[28] #[])
  resolved := Array.replicate 57 none
  statics := none }

def pool13 : Array CpInfo := pool [(8, .class_ 10), (1, u "java/util/List"), (7, u "()Z"), (15, u "toArray"), (32, u "isEmpty"), (35, .class_ 104), (0, u "java/lang/Object"), (15, .class_ 121), (0, u "java/util/SequencedCollection"), (5, u "([Ljava/lang/Object;)[Ljava/lang/Object;")] 123

def k13m0 : Method := { name := "isEmpty", desc := "()Z", sig := { parameters := [], returnType := some .boolean }, accessFlags := 1025, code := none }
def k13m1 : Method := { name := "toArray", desc := "([Ljava/lang/Object;)[Ljava/lang/Object;", sig := { parameters := [(.array (.object "java/lang/Object"))], returnType := some (.array (.object "java/lang/Object")) }, accessFlags := 1025, code := none }
/-- java/util/List -/
def k13 : Class := { plain "java/util/List" (some 0) with
  accessFlags := 1537
  interfaces := #[12]
  cf := some (fileOf pool13 8 #[] #[(mi 1025 67 18), (mi 1025 34 127)] 1537 103 #[120] #[])
  methods := #[k13m0, k13m1]
  resolved := Array.replicate 251 none
  statics := none }

def pool14 : Array CpInfo := pool [(1, .methodref 2 3), (0, .class_ 4), (0, .nameAndType 5 6), (0, u "java/util/AbstractCollection"), (0, u "<init>"), (0, u "()V"), (0, .fieldref 8 9), (0, .class_ 10), (0, .nameAndType 11 12), (0, u "java/util/AbstractList"), (0, u "modCount"), (0, u "I"), (64, .class_ 78), (0, u "java/util/AbstractList$Itr"), (3, .class_ 83), (0, u "java/util/AbstractList$ListItr"), (9, .class_ 94), (0, u "java/util/AbstractList$RandomAccessSubList"), (3, .class_ 99), (0, u "java/util/AbstractList$SubList"), (33, .class_ 134), (0, u "java/util/List"), (73, .class_ 209), (0, u "java/util/AbstractList$SubList$1"), (0, .class_ 211), (0, u "java/util/AbstractList$RandomAccessSpliterator")] 6

def k14c0 : Code := cd 2 1 jdk_39_method_1_code
def k14m0 : Method := mt "<init>" "()V" [] (none) 4 k14c0
/-- java/util/AbstractList -/
def k14 : Class := { plain "java/util/AbstractList" (some 11) with
  accessFlags := 1057
  interfaces := #[13]
  cf := some (fileOf pool14 8 #[.nestMembers #[93, 98, 208, 210, 82, 77]] #[(mi 4 5 6)] 1057 2 #[133] #[(fi 132 11 12)])
  fields := #[(fl "modCount" .int 132 0 0)]
  methods := #[k14m0]
  instanceTypes := #[.int]
  resolved := Array.replicate 218 none
  statics := none }

def pool15 : Array CpInfo := pool [(1, .class_ 2), (0, u "java/util/RandomAccess"), (0, .class_ 4), (0, u "java/lang/Object")] 2

/-- java/util/RandomAccess -/
def k15 : Class := { plain "java/util/RandomAccess" (some 0) with
  accessFlags := 1537
  cf := some (fileOf pool15 1 #[] #[] 1537 3 #[] #[])
  resolved := Array.replicate 7 none
  statics := none }

def pool16 : Array CpInfo := pool [(1, .class_ 2), (0, u "java/lang/Cloneable"), (0, .class_ 4), (0, u "java/lang/Object")] 2

/-- java/lang/Cloneable -/
def k16 : Class := { plain "java/lang/Cloneable" (some 0) with
  accessFlags := 1537
  cf := some (fileOf pool16 1 #[] #[] 1537 3 #[] #[])
  resolved := Array.replicate 7 none
  statics := none }

def pool17 : Array CpInfo := pool [(1, .methodref 2 3), (0, .class_ 4), (0, .nameAndType 5 6), (0, u "java/util/AbstractList"), (0, u "<init>"), (0, u "()V"), (2, .fieldref 10 11), (0, .class_ 12), (0, .nameAndType 13 14), (0, u "java/util/ArrayList"), (0, u "elementData"), (0, u "[Ljava/lang/Object;"), (2, u "EMPTY_ELEMENTDATA"), (21, .fieldref 10 40), (0, .nameAndType 41 14), (0, u "DEFAULTCAPACITY_EMPTY_ELEMENTDATA"), (4, u "toArray"), (1, .fieldref 10 49), (0, .nameAndType 50 51), (0, u "size"), (0, u "I"), (60, .methodref 113 114), (0, .class_ 115), (0, .nameAndType 116 117), (0, u "java/lang/System"), (0, u "arraycopy"), (0, u "(Ljava/lang/Object;ILjava/lang/Object;II)V"), (30, .class_ 149), (0, u "java/util/List"), (23, u "()Z"), (88, .class_ 263), (0, u "java/util/ArrayList$ListItr"), (3, .class_ 268), (0, u "java/util/ArrayList$Itr"), (7, .class_ 277), (0, u "java/util/ArrayList$SubList"), (12, .class_ 291), (0, u "java/util/ArrayList$ArrayListSpliterator"), (37, .class_ 330), (0, u "java/util/RandomAccess"), (0, .class_ 332), (0, u "java/lang/Cloneable"), (0, .class_ 334), (0, u "java/io/Serializable"), (0, u "serialVersionUID"), (0, u "J"), (3, u "DEFAULT_CAPACITY"), (22, u "isEmpty"), (11, u "([Ljava/lang/Object;)[Ljava/lang/Object;"), (124, .class_ 501), (0, u "java/util/ArrayList$SubList$2"), (0, .class_ 503), (0, u "java/util/ArrayList$SubList$1")] 5

def k17c0 : Code := cd 2 1 jdk_38_method_2_code
def k17m0 : Method := mt "<init>" "()V" [] (none) 1 k17c0
def k17c1 : Code := cd 1 1 jdk_38_method_9_code
def k17m1 : Method := mt "isEmpty" "()Z" [] (some .boolean) 1 k17c1
def k17c2 : Code := cd 5 2 jdk_38_method_17_code
def k17m2 : Method := mt "toArray" "([Ljava/lang/Object;)[Ljava/lang/Object;" [(.array (.object "java/lang/Object"))] (some (.array (.object "java/lang/Object"))) 1 k17c2
/-- java/util/ArrayList -/
def k17 : Class := { plain "java/util/ArrayList" (some 14) with
  interfaces := #[13, 15, 16, 2]
  cf := some (fileOf pool17 10 #[.nestMembers #[290, 276, 500, 502, 262, 267]] #[(mi 1 5 6), (mi 1 363 173), (mi 1 46 375)] 33 2 #[148, 329, 331, 333] #[(fi 26 335 336), (fi 26 340 51), (fi 26 17 14), (fi 26 41 14), (fi 128 13 14), (fi 2 50 51)])
  fields := #[(fl "serialVersionUID" .long 26 0 0), (fl "DEFAULT_CAPACITY" .int 26 1 0), (fl "EMPTY_ELEMENTDATA" (.array (.object "java/lang/Object")) 26 2 0), (fl "DEFAULTCAPACITY_EMPTY_ELEMENTDATA" (.array (.object "java/lang/Object")) 26 3 0), (fl "elementData" (.array (.object "java/lang/Object")) 128 1 0), (fl "size" .int 2 2 0)]
  methods := #[k17m0, k17m1, k17m2]
  instanceTypes := #[.int, (.array (.object "java/lang/Object")), .int]
  staticTypes := #[.long, .int, (.array (.object "java/lang/Object")), (.array (.object "java/lang/Object"))]
  resolved := Array.replicate 509 none
  statics := some 1 }

def pool18 : Array CpInfo := pool [(2, .class_ 4), (1, u "java/util/Map"), (31, .class_ 37), (0, u "java/util/Map$Entry"), (55, .class_ 94), (0, u "java/lang/Object")] 168

/-- java/util/Map -/
def k18 : Class := { plain "java/util/Map" (some 0) with
  accessFlags := 1537
  cf := some (fileOf pool18 2 #[.nestMembers #[36]] #[] 1537 93 #[] #[])
  resolved := Array.replicate 263 none
  statics := none }

def pool19 : Array CpInfo := pool [(1, .methodref 2 3), (0, .class_ 4), (0, .nameAndType 5 6), (0, u "java/lang/Object"), (0, u "<init>"), (0, u "()V"), (1, .class_ 10), (1, u "java/util/AbstractMap"), (42, .class_ 54), (0, u "java/util/Map"), (9, u "keySet"), (0, u "Ljava/util/Set;"), (0, .class_ 67), (0, u "java/util/AbstractMap$1"), (5, u "values"), (0, u "Ljava/util/Collection;"), (0, .class_ 76), (0, u "java/util/AbstractMap$2"), (104, .class_ 182), (0, u "java/util/AbstractMap$ViewCollection"), (0, .class_ 184), (0, u "java/util/AbstractMap$SimpleImmutableEntry"), (0, .class_ 186), (0, u "java/util/AbstractMap$SimpleEntry"), (0, .class_ 188), (0, u "java/util/AbstractMap$2$1"), (0, .class_ 190), (0, u "java/util/AbstractMap$1$1")] 5

def k19c0 : Code := cd 1 1 jdk_71_method_1_code
def k19m0 : Method := mt "<init>" "()V" [] (none) 4 k19c0
/-- java/util/AbstractMap -/
def k19 : Class := { plain "java/util/AbstractMap" (some 0) with
  accessFlags := 1057
  interfaces := #[18]
  cf := some (fileOf pool19 8 #[.nestMembers #[181, 183, 185, 75, 187, 66, 189]] #[(mi 4 5 6)] 1057 2 #[53] #[(fi 128 64 65), (fi 128 73 74)])
  fields := #[(fl "keySet" (.object "java/util/Set") 128 0 0), (fl "values" (.object "java/util/Collection") 128 1 0)]
  methods := #[k19m0]
  instanceTypes := #[(.object "java/util/Set"), (.object "java/util/Collection")]
  resolved := Array.replicate 196 none
  statics := none }

def pool20 : Array CpInfo := pool [(40, .class_ 41), (0, u "java/util/HashMap"), (1, .methodref 44 45), (0, .class_ 46), (0, .nameAndType 47 48), (0, u "java/util/AbstractMap"), (0, u "<init>"), (0, u "()V"), (32, .fieldref 40 82), (0, .nameAndType 83 84), (0, u "loadFactor"), (0, u "F"), (5, u "threshold"), (0, u "I"), (0, .float 1061158912), (8, .class_ 103), (1, u "java/util/Map"), (0, u "size"), (2, u "table"), (0, u "[Ljava/util/HashMap$Node;"), (14, u "entrySet"), (39, .class_ 165), (1, u "java/util/HashMap$Node"), (14, .class_ 181), (0, u "java/util/HashMap$TreeNode"), (22, u "modCount"), (37, u "Ljava/util/Set;"), (0, .class_ 244), (0, u "java/util/HashMap$KeySet"), (18, .class_ 264), (0, u "java/util/HashMap$Values"), (3, .class_ 269), (0, u "java/util/HashMap$EntrySet"), (76, .class_ 348), (1, u "java/util/HashMap$UnsafeHolder"), (43, .class_ 393), (0, u "java/lang/Cloneable"), (0, .class_ 395), (0, u "java/io/Serializable"), (0, u "serialVersionUID"), (0, u "J"), (3, u "DEFAULT_INITIAL_CAPACITY"), (1, u "MAXIMUM_CAPACITY"), (0, u "DEFAULT_LOAD_FACTOR"), (0, u "TREEIFY_THRESHOLD"), (1, u "UNTREEIFY_THRESHOLD"), (1, u "MIN_TREEIFY_CAPACITY"), (186, .class_ 597), (0, u "java/util/HashMap$EntrySpliterator"), (0, .class_ 599), (0, u "java/util/HashMap$ValueSpliterator"), (0, .class_ 601), (0, u "java/util/HashMap$KeySpliterator"), (0, .class_ 603), (0, u "java/util/HashMap$HashMapSpliterator"), (0, .class_ 605), (0, u "java/util/HashMap$EntryIterator"), (0, .class_ 607), (0, u "java/util/HashMap$ValueIterator"), (0, .class_ 609), (0, u "java/util/HashMap$KeyIterator"), (0, .class_ 611), (0, u "java/util/HashMap$HashIterator")] 17

def k20c0 : Code := cd 2 1 jdk_69_method_7_code
def k20m0 : Method := mt "<init>" "()V" [] (none) 1 k20c0
/-- java/util/HashMap -/
def k20 : Class := { plain "java/util/HashMap" (some 19) with
  interfaces := #[18, 16, 2]
  cf := some (fileOf pool20 40 #[.nestMembers #[180, 596, 598, 600, 602, 604, 606, 608, 610, 346, 268, 263, 243, 163]] #[(mi 1 47 48)] 33 44 #[101, 392, 394] #[(fi 26 396 397), (fi 24 401 91), (fi 24 403 91), (fi 24 404 84), (fi 24 405 91), (fi 24 407 91), (fi 24 409 91), (fi 128 107 108), (fi 128 123 242), (fi 128 104 91), (fi 128 204 91), (fi 0 90 91), (fi 16 83 84)])
  fields := #[(fl "serialVersionUID" .long 26 0 0), (fl "DEFAULT_INITIAL_CAPACITY" .int 24 1 0), (fl "MAXIMUM_CAPACITY" .int 24 2 0), (fl "DEFAULT_LOAD_FACTOR" .float 24 3 0), (fl "TREEIFY_THRESHOLD" .int 24 4 0), (fl "UNTREEIFY_THRESHOLD" .int 24 5 0), (fl "MIN_TREEIFY_CAPACITY" .int 24 6 0), (fl "table" (.array (.object "java/util/HashMap$Node")) 128 2 0), (fl "entrySet" (.object "java/util/Set") 128 3 0), (fl "size" .int 128 4 0), (fl "modCount" .int 128 5 0), (fl "threshold" .int 0 6 0), (fl "loadFactor" .float 16 7 0)]
  methods := #[k20m0]
  instanceTypes := #[(.object "java/util/Set"), (.object "java/util/Collection"), (.array (.object "java/util/HashMap$Node")), (.object "java/util/Set"), .int, .int, .int, .float]
  staticTypes := #[.long, .int, .int, .float, .int, .int, .int]
  resolved := Array.replicate 629 none
  statics := none }

def pool21 : Array CpInfo := pool [(1, .class_ 2), (0, u "com/example/honest_errors/honesterrors/jsonschema/RegexAssembler"), (0, .methodref 4 5), (0, .class_ 6), (0, .nameAndType 7 8), (0, u "java/lang/Object"), (0, u "<init>"), (0, u "()V"), (0, .fieldref 10 11), (0, .class_ 12), (0, .nameAndType 13 14), (0, u "com/example/honest_errors/honesterrors/jsonschema/RegexAssembler$Fragment"), (0, u "entry"), (0, u "I"), (0, .fieldref 10 16), (0, .nameAndType 17 14), (0, u "holes"), (0, .fieldref 10 19), (0, .nameAndType 20 14), (0, u "lastHole"), (0, .integer 2147483648), (0, .fieldref 10 23), (0, .nameAndType 24 14), (0, u "atom"), (0, .fieldref 10 26), (0, .nameAndType 27 28), (0, u "deterministic"), (0, u "Z"), (0, u "minLength"), (0, u "maxLength"), (0, u "consumes"), (0, u "lineEnding"), (0, u "captures")] 7

def k21c0 : Code := cd 2 1 prog_29_method_1_code
def k21m0 : Method := mt "<init>" "()V" [] (none) 2 k21c0
/-- com/example/honest_errors/honesterrors/jsonschema/RegexAssembler$Fragment -/
def k21 : Class := { plain "com/example/honest_errors/honesterrors/jsonschema/RegexAssembler$Fragment" (some 0) with
  accessFlags := 32
  cf := some (fileOf pool21 10 #[.nestHost 1] #[(mi 2 7 8)] 32 4 #[] #[(fi 2 13 14), (fi 2 17 14), (fi 2 20 14), (fi 2 29 14), (fi 2 30 14), (fi 2 31 28), (fi 2 24 14), (fi 2 27 28), (fi 2 32 28), (fi 2 33 28)])
  fields := #[(fl "entry" .int 2 0 0), (fl "holes" .int 2 1 0), (fl "lastHole" .int 2 2 0), (fl "minLength" .int 2 3 0), (fl "maxLength" .int 2 4 0), (fl "consumes" .boolean 2 5 0), (fl "atom" .int 2 6 0), (fl "deterministic" .boolean 2 7 0), (fl "lineEnding" .boolean 2 8 0), (fl "captures" .boolean 2 9 0)]
  methods := #[k21m0]
  instanceTypes := #[.int, .int, .int, .int, .int, .boolean, .int, .boolean, .boolean, .boolean]
  resolved := Array.replicate 41 none
  statics := none }

def pool22 : Array CpInfo := pool [(2, .class_ 4), (1, u "java/lang/Object"), (0, u "<init>"), (0, u "()V"), (5, u "([IIII)V"), (0, .methodref 14 15), (0, .class_ 16), (0, .nameAndType 17 18), (0, u "java/util/Arrays"), (0, u "rangeCheck"), (0, u "(III)V"), (55, .class_ 76), (1, u "java/util/Arrays$NaturalOrder"), (36, .class_ 115), (1, u "java/util/Arrays$LegacyMergeSort"), (1, u "Z"), (32, .methodref 151 152), (0, .class_ 153), (0, .nameAndType 154 155), (0, u "java/lang/System"), (0, u "arraycopy"), (0, u "(Ljava/lang/Object;ILjava/lang/Object;II)V"), (146, u "copyOf"), (1, .methodref 305 306), (0, .class_ 307), (0, .nameAndType 308 309), (0, u "java/lang/Math"), (0, u "min"), (0, u "(II)I"), (65, .class_ 376), (0, u "java/util/Arrays$ArrayList"), (68, u "$assertionsDisabled"), (269, u "MIN_ARRAY_SORT_GRAN"), (0, u "I"), (2, u "INSERTIONSORT_THRESHOLD"), (120, u "fill"), (28, u "([BI)[B"), (1, u "([II)[I"), (103, .class_ 976), (0, u "java/util/Arrays$ArrayItr")] 52

def k22m0 : Method := { name := "<init>", desc := "()V", sig := { parameters := [], returnType := none }, accessFlags := 2, code := none }
def k22c1 : Code := cd 4 3 jdk_65_method_30_code
def k22m1 : Method := mt "rangeCheck" "(III)V" [.int, .int, .int] (none) 8 k22c1
def k22c2 : Code := cd 3 5 jdk_65_method_104_code
def k22m2 : Method := mt "fill" "([IIII)V" [(.array .int), .int, .int, .int] (none) 9 k22c2
def k22c3 : Code := cd 6 3 jdk_65_method_121_code
def k22m3 : Method := mt "copyOf" "([BI)[B" [(.array .byte), .int] (some (.array .byte)) 9 k22c3
def k22c4 : Code := cd 6 3 jdk_65_method_123_code
def k22m4 : Method := mt "copyOf" "([II)[I" [(.array .int), .int] (some (.array .int)) 9 k22c4
/-- java/util/Arrays -/
def k22 : Class := { plain "java/util/Arrays" (some 0) with
  accessFlags := 49
  cf := some (fileOf pool22 14 #[.nestMembers #[975, 375, 113, 74]] #[(mi 2 5 6), (mi 8 17 18), (mi 9 840 12), (mi 9 302 869), (mi 9 302 871)] 49 2 #[] #[(fi 26 715 716), (fi 26 719 716), (fi 4120 445 117)])
  fields := #[(fl "MIN_ARRAY_SORT_GRAN" .int 26 0 0), (fl "INSERTIONSORT_THRESHOLD" .int 26 1 0), (fl "$assertionsDisabled" .boolean 4120 2 0)]
  methods := #[k22m0, k22m1, k22m2, k22m3, k22m4]
  staticTypes := #[.int, .int, .boolean]
  resolved := Array.replicate 1029 none
  statics := none }

def pool23 : Array CpInfo := pool [(1, .class_ 2), (0, u "java/lang/Math"), (1, .class_ 6), (1, u "java/lang/Object"), (0, u "<init>"), (0, u "()V"), (89, .class_ 100), (1, u "java/lang/Math$RandomNumberGeneratorHolder"), (71, u "negativeZeroFloatBits"), (0, u "J"), (2, u "negativeZeroDoubleBits"), (24, u "min"), (43, u "$assertionsDisabled"), (0, u "Z"), (88, u "(II)I"), (2, u "twoToTheDoubleScaleDown"), (0, u "D"), (4, u "twoToTheDoubleScaleUp"), (9, u "E"), (3, u "PI"), (2, u "TAU"), (2, u "DEGREES_TO_RADIANS"), (0, u "RADIANS_TO_DEGREES")] 94

def k23m0 : Method := { name := "<init>", desc := "()V", sig := { parameters := [], returnType := none }, accessFlags := 2, code := none }
def k23c1 : Code := cd 2 2 jdk_29_method_69_code
def k23m1 : Method := mt "min" "(II)I" [.int, .int] (some .int) 9 k23c1
/-- java/lang/Math -/
def k23 : Class := { plain "java/lang/Math" (some 0) with
  accessFlags := 49
  cf := some (fileOf pool23 1 #[.nestMembers #[98]] #[(mi 2 7 8), (mi 9 201 335)] 49 4 #[] #[(fi 25 354 339), (fi 25 358 339), (fi 25 361 339), (fi 26 364 339), (fi 26 365 339), (fi 26 172 173), (fi 26 176 173), (fi 8 344 339), (fi 8 338 339), (fi 4120 245 246)])
  fields := #[(fl "E" .double 25 0 0), (fl "PI" .double 25 1 0), (fl "TAU" .double 25 2 0), (fl "DEGREES_TO_RADIANS" .double 26 3 0), (fl "RADIANS_TO_DEGREES" .double 26 4 0), (fl "negativeZeroFloatBits" .long 26 5 0), (fl "negativeZeroDoubleBits" .long 26 6 0), (fl "twoToTheDoubleScaleUp" .double 8 7 0), (fl "twoToTheDoubleScaleDown" .double 8 8 0), (fl "$assertionsDisabled" .boolean 4120 9 0)]
  methods := #[k23m0, k23m1]
  staticTypes := #[.double, .double, .double, .double, .double, .long, .long, .double, .double, .boolean]
  resolved := Array.replicate 460 none
  statics := none }

def pool24 : Array CpInfo := pool [(2, .class_ 4), (1, u "java/lang/Object"), (0, u "<init>"), (0, u "()V"), (1, .class_ 10), (1, u "java/lang/System"), (0, u "allowSecurityManager"), (0, u "I"), (16, u "cons"), (0, u "Ljava/io/Console;"), (77, .class_ 110), (1, u "java/lang/System$CallersHolder"), (43, u "initialErrStream"), (0, u "Ljava/io/PrintStream;"), (19, u "security"), (0, u "Ljava/lang/SecurityManager;"), (31, .class_ 209), (0, u "java/lang/System$1"), (7, u "props"), (0, u "Ljava/util/Properties;"), (2, u "lineSeparator"), (0, u "Ljava/lang/String;"), (96, .class_ 321), (1, u "java/lang/System$LoggerFinder"), (5, .class_ 328), (0, u "java/lang/System$Logger"), (67, u "err"), (2, u "out"), (91, u "notSupportedJnuEncoding"), (15, u "in"), (17, u "initialIn"), (0, u "Ljava/io/InputStream;"), (35, u "bootLayer"), (0, u "Ljava/lang/ModuleLayer;"), (99, .class_ 664), (0, u "java/lang/System$2"), (9, u "NEVER"), (2, u "MAYBE"), (49, u "arraycopy"), (0, u "(Ljava/lang/Object;ILjava/lang/Object;II)V"), (72, .class_ 802), (0, u "java/lang/System$Logger$Level")] 31

def k24m0 : Method := { name := "<init>", desc := "()V", sig := { parameters := [], returnType := none }, accessFlags := 2, code := none }
def k24m1 : Method := { name := "arraycopy", desc := "(Ljava/lang/Object;ILjava/lang/Object;II)V", sig := { parameters := [(.object "java/lang/Object"), .int, (.object "java/lang/Object"), .int, .int], returnType := none }, accessFlags := 265, code := none }
/-- java/lang/System -/
def k24 : Class := { plain "java/lang/System" (some 0) with
  accessFlags := 49
  cf := some (fileOf pool24 8 #[.nestMembers #[319, 327, 801, 108, 663, 208]] #[(mi 2 5 6), (mi 265 727 728)] 49 2 #[] #[(fi 25 507 526), (fi 25 399 155), (fi 25 396 155), (fi 10 525 526), (fi 26 674 12), (fi 26 677 12), (fi 10 11 12), (fi 74 175 176), (fi 10 491 222), (fi 74 29 30), (fi 74 154 155), (fi 10 217 218), (fi 10 221 222), (fi 8 562 563)])
  fields := #[(fl "in" (.object "java/io/InputStream") 25 0 0), (fl "out" (.object "java/io/PrintStream") 25 1 0), (fl "err" (.object "java/io/PrintStream") 25 2 0), (fl "initialIn" (.object "java/io/InputStream") 10 3 0), (fl "NEVER" .int 26 4 0), (fl "MAYBE" .int 26 5 0), (fl "allowSecurityManager" .int 10 6 0), (fl "security" (.object "java/lang/SecurityManager") 74 7 0), (fl "notSupportedJnuEncoding" (.object "java/lang/String") 10 8 0), (fl "cons" (.object "java/io/Console") 74 9 0), (fl "initialErrStream" (.object "java/io/PrintStream") 74 10 0), (fl "props" (.object "java/util/Properties") 10 11 0), (fl "lineSeparator" (.object "java/lang/String") 10 12 0), (fl "bootLayer" (.object "java/lang/ModuleLayer") 8 13 0)]
  methods := #[k24m0, k24m1]
  staticTypes := #[(.object "java/io/InputStream"), (.object "java/io/PrintStream"), (.object "java/io/PrintStream"), (.object "java/io/InputStream"), .int, .int, .int, (.object "java/lang/SecurityManager"), (.object "java/lang/String"), (.object "java/io/Console"), (.object "java/io/PrintStream"), (.object "java/util/Properties"), (.object "java/lang/String"), (.object "java/lang/ModuleLayer")]
  resolved := Array.replicate 834 none
  statics := none }

def pool25 : Array CpInfo := pool [(1, .methodref 2 3), (0, .class_ 4), (0, .nameAndType 5 6), (0, u "java/lang/Object"), (0, u "<init>"), (0, u "()V"), (0, .fieldref 8 9), (0, .class_ 10), (0, .nameAndType 11 12), (0, u "com/example/honest_errors/honesterrors/jsonschema/RegexProgram"), (0, u "op"), (0, u "[B"), (0, .fieldref 8 14), (0, .nameAndType 15 16), (0, u "next"), (0, u "[I"), (0, .fieldref 8 18), (0, .nameAndType 19 16), (0, u "a"), (0, .fieldref 8 21), (0, .nameAndType 22 16), (0, u "b"), (0, .fieldref 8 24), (0, .nameAndType 25 16), (0, u "c"), (0, .fieldref 8 27), (0, .nameAndType 28 16), (0, u "d"), (0, .fieldref 8 30), (0, .nameAndType 31 32), (0, u "leaves"), (0, u "[Lcom/example/honest_errors/honesterrors/jsonschema/RegexLeaf;"), (0, .fieldref 8 34), (0, .nameAndType 35 36), (0, u "entry"), (0, u "I"), (0, .fieldref 8 38), (0, .nameAndType 39 16), (0, u "failures"), (0, .fieldref 8 41), (0, .nameAndType 42 36), (0, u "failureSets"), (0, .fieldref 8 44), (0, .nameAndType 45 36), (0, u "groups"), (0, .fieldref 8 47), (0, .nameAndType 48 36), (0, u "captures"), (0, .class_ 50), (0, u "com/example/honest_errors/honesterrors/jsonschema/RegexProgram$Search"), (0, .methodref 49 52), (0, .nameAndType 5 53), (0, u "(Lcom/example/honest_errors/honesterrors/jsonschema/RegexProgram;Ljava/lang/String;)V"), (0, .methodref 49 55), (0, .nameAndType 56 57), (0, u "find"), (0, u "()Z"), (2, u "NONE"), (0, u "LITERAL"), (0, u "B"), (2, u "LEAF"), (1, u "ASSERT"), (1, u "BEGIN"), (1, u "SPLIT"), (1, u "RUN_GREEDY"), (1, u "RUN_LAZY"), (1, u "RUN_POSSESSIVE"), (1, u "CANONICAL"), (1, u "OPEN"), (1, u "CLOSE"), (1, u "BACKREF"), (1, u "MARK"), (1, u "LOOP_GREEDY"), (1, u "LOOP_LAZY"), (1, u "COUNT_INIT"), (1, u "COUNT_GREEDY"), (1, u "COUNT_LAZY"), (1, u "LOOK"), (1, u "ATOMIC"), (1, u "END"), (1, u "NOP"), (1, u "GRAPHEME_BOUNDARY"), (1, u "REPEAT_GREEDY"), (1, u "STRICT_GREEDY"), (1, u "STRICT_LAZY"), (1, u "AT_END"), (1, u "BEHIND"), (0, u "NEGATED"), (0, u "SUPPLEMENTARY"), (0, u "EXACT"), (1, u "ASCII_CASE"), (0, u "UNICODE_CASE"), (0, u "LOOP_EXIT"), (1, u "RUN_BACK"), (1, u "RUN_MORE"), (1, u "COUNT_MORE"), (1, u "CANONICAL_NEXT"), (1, u "([B[[I[Lcom/example/honest_errors/honesterrors/jsonschema/RegexLeaf;I[IIII)V"), (2, u "(Ljava/lang/String;)Z")] 9

def k25c0 : Code := cd 3 9 prog_34_method_1_code
def k25m0 : Method := mt "<init>" "([B[[I[Lcom/example/honest_errors/honesterrors/jsonschema/RegexLeaf;I[IIII)V" [(.array .byte), (.array (.array .int)), (.array (.object "com/example/honest_errors/honesterrors/jsonschema/RegexLeaf")), .int, (.array .int), .int, .int, .int] (none) 0 k25c0
def k25c1 : Code := cd 4 2 prog_34_method_2_code
def k25m1 : Method := mt "find" "(Ljava/lang/String;)Z" [(.object "java/lang/String")] (some .boolean) 0 k25c1
/-- com/example/honest_errors/honesterrors/jsonschema/RegexProgram -/
def k25 : Class := { plain "com/example/honest_errors/honesterrors/jsonschema/RegexProgram" (some 0) with
  accessFlags := 32
  cf := some (fileOf pool25 8 #[.nestMembers #[49]] #[(mi 0 5 134), (mi 0 56 137)] 32 2 #[] #[(fi 24 61 62), (fi 24 65 62), (fi 24 67 62), (fi 24 69 62), (fi 24 71 62), (fi 24 73 62), (fi 24 75 62), (fi 24 77 62), (fi 24 79 62), (fi 24 81 62), (fi 24 83 62), (fi 24 85 62), (fi 24 87 62), (fi 24 89 62), (fi 24 91 62), (fi 24 93 62), (fi 24 95 62), (fi 24 97 62), (fi 24 99 62), (fi 24 101 62), (fi 24 103 62), (fi 24 105 62), (fi 24 107 62), (fi 24 109 62), (fi 24 111 62), (fi 24 113 62), (fi 24 115 62), (fi 24 117 36), (fi 24 118 36), (fi 24 119 36), (fi 24 120 36), (fi 24 122 36), (fi 24 123 36), (fi 26 124 36), (fi 26 126 36), (fi 26 128 36), (fi 26 130 36), (fi 26 132 36), (fi 26 60 16), (fi 18 11 12), (fi 18 15 16), (fi 18 19 16), (fi 18 22 16), (fi 18 25 16), (fi 18 28 16), (fi 18 31 32), (fi 18 35 36), (fi 18 39 16), (fi 18 42 36), (fi 18 45 36), (fi 18 48 36)])
  fields := #[(fl "LITERAL" .byte 24 0 0), (fl "LEAF" .byte 24 1 0), (fl "ASSERT" .byte 24 2 0), (fl "BEGIN" .byte 24 3 0), (fl "SPLIT" .byte 24 4 0), (fl "RUN_GREEDY" .byte 24 5 0), (fl "RUN_LAZY" .byte 24 6 0), (fl "RUN_POSSESSIVE" .byte 24 7 0), (fl "CANONICAL" .byte 24 8 0), (fl "OPEN" .byte 24 9 0), (fl "CLOSE" .byte 24 10 0), (fl "BACKREF" .byte 24 11 0), (fl "MARK" .byte 24 12 0), (fl "LOOP_GREEDY" .byte 24 13 0), (fl "LOOP_LAZY" .byte 24 14 0), (fl "COUNT_INIT" .byte 24 15 0), (fl "COUNT_GREEDY" .byte 24 16 0), (fl "COUNT_LAZY" .byte 24 17 0), (fl "LOOK" .byte 24 18 0), (fl "ATOMIC" .byte 24 19 0), (fl "END" .byte 24 20 0), (fl "NOP" .byte 24 21 0), (fl "GRAPHEME_BOUNDARY" .byte 24 22 0), (fl "REPEAT_GREEDY" .byte 24 23 0), (fl "STRICT_GREEDY" .byte 24 24 0), (fl "STRICT_LAZY" .byte 24 25 0), (fl "AT_END" .byte 24 26 0), (fl "BEHIND" .int 24 27 0), (fl "NEGATED" .int 24 28 0), (fl "SUPPLEMENTARY" .int 24 29 0), (fl "EXACT" .int 24 30 0), (fl "ASCII_CASE" .int 24 31 0), (fl "UNICODE_CASE" .int 24 32 0), (fl "LOOP_EXIT" .int 26 33 0), (fl "RUN_BACK" .int 26 34 0), (fl "RUN_MORE" .int 26 35 0), (fl "COUNT_MORE" .int 26 36 0), (fl "CANONICAL_NEXT" .int 26 37 0), (fl "NONE" (.array .int) 26 38 0), (fl "op" (.array .byte) 18 0 0), (fl "next" (.array .int) 18 1 0), (fl "a" (.array .int) 18 2 0), (fl "b" (.array .int) 18 3 0), (fl "c" (.array .int) 18 4 0), (fl "d" (.array .int) 18 5 0), (fl "leaves" (.array (.object "com/example/honest_errors/honesterrors/jsonschema/RegexLeaf")) 18 6 0), (fl "entry" .int 18 7 0), (fl "failures" (.array .int) 18 8 0), (fl "failureSets" .int 18 9 0), (fl "groups" .int 18 10 0), (fl "captures" .int 18 11 0)]
  methods := #[k25m0, k25m1]
  instanceTypes := #[(.array .byte), (.array .int), (.array .int), (.array .int), (.array .int), (.array .int), (.array (.object "com/example/honest_errors/honesterrors/jsonschema/RegexLeaf")), .int, (.array .int), .int, .int, .int]
  staticTypes := #[.byte, .byte, .byte, .byte, .byte, .byte, .byte, .byte, .byte, .byte, .byte, .byte, .byte, .byte, .byte, .byte, .byte, .byte, .byte, .byte, .byte, .byte, .byte, .byte, .byte, .byte, .byte, .int, .int, .int, .int, .int, .int, .int, .int, .int, .int, .int, (.array .int)]
  resolved := Array.replicate 147 none
  statics := some 6 }

def pool26 : Array CpInfo := pool [(2, .class_ 4), (1, u "java/lang/Object"), (3, .class_ 10), (1, u "com/example/honest_errors/honesterrors/jsonschema/RegexLeaf"), (0, u "text"), (0, u "Ljava/lang/String;"), (2, u "flags"), (0, u "I"), (2, u "zeroWidth"), (0, u "Z"), (2, u "clusters"), (2, u "pattern"), (18, u "ascii"), (0, u "[J"), (26, u "Ljava/util/regex/Pattern;")] 17

/-- com/example/honest_errors/honesterrors/jsonschema/RegexLeaf -/
def k26 : Class := { plain "com/example/honest_errors/honesterrors/jsonschema/RegexLeaf" (some 0) with
  accessFlags := 32
  cf := some (fileOf pool26 8 #[] #[] 32 2 #[] #[(fi 18 11 12), (fi 18 15 16), (fi 66 26 73), (fi 18 19 20), (fi 18 23 20), (fi 66 45 46)])
  fields := #[(fl "text" (.object "java/lang/String") 18 0 0), (fl "flags" .int 18 1 0), (fl "pattern" (.object "java/util/regex/Pattern") 66 2 0), (fl "zeroWidth" .boolean 18 3 0), (fl "clusters" .boolean 18 4 0), (fl "ascii" (.array .long) 66 5 0)]
  instanceTypes := #[(.object "java/lang/String"), .int, (.object "java/util/regex/Pattern"), .boolean, .boolean, (.array .long)]
  resolved := Array.replicate 91 none
  statics := none }

def pool27 : Array CpInfo := pool [(1, .class_ 2), (0, u "com/example/honest_errors/honesterrors/jsonschema/RegexProgram"), (0, .fieldref 4 5), (0, .class_ 6), (0, .nameAndType 7 8), (0, u "com/example/honest_errors/honesterrors/jsonschema/RegexProgram$Search"), (0, u "this$0"), (0, u "Lcom/example/honest_errors/honesterrors/jsonschema/RegexProgram;"), (0, .methodref 10 11), (0, .class_ 12), (0, .nameAndType 13 14), (0, u "java/lang/Object"), (0, u "<init>"), (0, u "()V"), (0, .fieldref 1 16), (0, .nameAndType 17 18), (0, u "NONE"), (0, u "[I"), (0, .fieldref 4 20), (0, .nameAndType 21 18), (0, u "choices"), (0, .fieldref 4 23), (0, .nameAndType 24 18), (0, u "trail"), (0, .fieldref 4 26), (0, .nameAndType 27 28), (0, u "text"), (0, u "Ljava/lang/String;"), (0, .methodref 30 31), (0, .class_ 32), (0, .nameAndType 33 34), (0, u "java/lang/String"), (0, u "length"), (0, u "()I"), (0, .fieldref 4 36), (0, .nameAndType 33 37), (0, u "I"), (0, .fieldref 1 39), (0, .nameAndType 40 37), (0, u "captures"), (0, .fieldref 1 42), (0, .nameAndType 43 37), (0, u "groups"), (0, .fieldref 4 45), (0, .nameAndType 46 18), (0, u "registers"), (0, .methodref 48 49), (0, .class_ 50), (0, .nameAndType 51 52), (0, u "java/util/Arrays"), (0, u "fill"), (0, u "([IIII)V"), (0, .fieldref 1 54), (0, .nameAndType 55 37), (0, u "entry"), (0, .methodref 4 57), (0, .nameAndType 58 59), (0, u "run"), (0, u "(III)I"), (0, .fieldref 1 61), (0, .nameAndType 62 63), (0, u "op"), (0, u "[B"), (0, .methodref 30 65), (0, .nameAndType 66 67), (0, u "charAt"), (0, u "(I)C"), (0, .methodref 69 70), (0, .class_ 71), (0, .nameAndType 72 73), (0, u "java/lang/Character"), (0, u "isHighSurrogate"), (0, u "(C)Z"), (0, .methodref 69 75), (0, .nameAndType 76 73), (0, u "isLowSurrogate"), (0, .fieldref 4 78), (0, .nameAndType 79 37), (0, u "chosen"), (0, .fieldref 4 81), (0, .nameAndType 82 37), (0, u "trailed"), (0, .fieldref 4 84), (0, .nameAndType 85 37), (0, u "at"), (0, .methodref 4 87), (0, .nameAndType 88 89), (0, u "step"), (0, u "(II)I"), (0, .methodref 4 91), (0, .nameAndType 92 93), (0, u "backtrack"), (0, u "(I)I"), (0, .methodref 4 95), (0, .nameAndType 96 97), (0, u "undo"), (0, u "(I)V"), (0, .fieldref 1 99), (0, .nameAndType 100 18), (0, u "a"), (0, .methodref 4 102), (0, .nameAndType 103 104), (0, u "consume"), (0, u "(I)Z"), (0, .fieldref 1 106), (0, .nameAndType 107 18), (0, u "next"), (13, u "()Z"), (6, .methodref 4 129), (0, .nameAndType 130 104), (0, u "repeat"), (2, .integer 2147483647), (11, .fieldref 1 146), (0, .nameAndType 147 18), (0, u "b"), (31, .fieldref 1 180), (0, .nameAndType 181 18), (0, u "failures"), (24, .methodref 4 207), (0, .nameAndType 208 89), (0, u "end"), (0, .methodref 30 210), (0, .nameAndType 211 93), (0, u "codePointAt"), (0, .integer 65536), (0, .methodref 69 214), (0, .nameAndType 215 73), (0, u "isSurrogate"), (0, .methodref 69 217), (0, .nameAndType 218 93), (0, u "charCount"), (0, .fieldref 1 220), (0, .nameAndType 221 222), (0, u "leaves"), (0, u "[Lcom/example/honest_errors/honesterrors/jsonschema/RegexLeaf;"), (12, u "matchers"), (0, u "[Ljava/util/regex/Matcher;"), (3, .fieldref 1 241), (0, .nameAndType 242 18), (0, u "c"), (0, .methodref 4 244), (0, .nameAndType 245 246), (0, u "passOver"), (0, u "(IIIZ)I"), (83, u "clusterBoundaries"), (0, u "[J"), (2, u "clustersRead"), (2, u "failed"), (0, u "[[J"), (4, u "DONE"), (2, u "FAILED"), (1, u "(Lcom/example/honest_errors/honesterrors/jsonschema/RegexProgram;Ljava/lang/String;)V"), (5, u "find")] 22

def k27c0 : Code := cd 5 3 prog_35_method_1_code
def k27m0 : Method := mt "<init>" "(Lcom/example/honest_errors/honesterrors/jsonschema/RegexProgram;Ljava/lang/String;)V" [(.object "com/example/honest_errors/honesterrors/jsonschema/RegexProgram"), (.object "java/lang/String")] (none) 0 k27c0
def k27c1 : Code := cd 4 4 prog_35_method_2_code
def k27m1 : Method := mt "find" "()Z" [] (some .boolean) 0 k27c1
def k27c2 : Code := cd 3 7 prog_35_method_3_code
def k27m2 : Method := mt "run" "(III)I" [.int, .int, .int] (some .int) 2 k27c2
def k27c3 : Code := cd 6 4 prog_35_method_4_code
def k27m3 : Method := mt "step" "(II)I" [.int, .int] (some .int) 2 k27c3
def k27c4 : Code := cd 5 6 prog_35_method_5_code
def k27m4 : Method := mt "backtrack" "(I)I" [.int] (some .int) 2 k27c4
def k27c5 : Code := cd 5 3 prog_35_method_11_code
def k27m5 : Method := mt "undo" "(I)V" [.int] (none) 2 k27c5
def k27c6 : Code := cd 3 3 prog_35_method_12_code
def k27m6 : Method := mt "consume" "(I)Z" [.int] (some .boolean) 2 k27c6
def k27c7 : Code := cd 3 6 prog_35_method_13_code
def k27m7 : Method := mt "end" "(II)I" [.int, .int] (some .int) 2 k27c7
def k27c8 : Code := cd 5 9 prog_35_method_16_code
def k27m8 : Method := mt "repeat" "(I)Z" [.int] (some .boolean) 2 k27c8
def k27c9 : Code := cd 5 6 prog_35_method_19_code
def k27m9 : Method := mt "passOver" "(IIIZ)I" [.int, .int, .int, .boolean] (some .int) 2 k27c9
/-- com/example/honest_errors/honesterrors/jsonschema/RegexProgram$Search -/
def k27 : Class := { plain "com/example/honest_errors/honesterrors/jsonschema/RegexProgram$Search" (some 0) with
  accessFlags := 32
  cf := some (fileOf pool27 4 #[.nestHost 1] #[(mi 0 13 348), (mi 0 354 121), (mi 2 58 59), (mi 2 88 89), (mi 2 92 93), (mi 2 96 97), (mi 2 103 104), (mi 2 208 89), (mi 2 130 104), (mi 2 245 246)] 32 10 #[] #[(fi 26 343 37), (fi 26 346 37), (fi 18 27 28), (fi 18 33 37), (fi 18 46 18), (fi 2 21 18), (fi 2 79 37), (fi 2 24 18), (fi 2 82 37), (fi 2 235 236), (fi 2 337 338), (fi 2 85 37), (fi 2 330 331), (fi 2 334 37), (fi 4112 7 8)])
  fields := #[(fl "DONE" .int 26 0 0), (fl "FAILED" .int 26 1 0), (fl "text" (.object "java/lang/String") 18 0 0), (fl "length" .int 18 1 0), (fl "registers" (.array .int) 18 2 0), (fl "choices" (.array .int) 2 3 0), (fl "chosen" .int 2 4 0), (fl "trail" (.array .int) 2 5 0), (fl "trailed" .int 2 6 0), (fl "matchers" (.array (.object "java/util/regex/Matcher")) 2 7 0), (fl "failed" (.array (.array .long)) 2 8 0), (fl "at" .int 2 9 0), (fl "clusterBoundaries" (.array .long) 2 10 0), (fl "clustersRead" .int 2 11 0), (fl "this$0" (.object "com/example/honest_errors/honesterrors/jsonschema/RegexProgram") 4112 12 0)]
  methods := #[k27m0, k27m1, k27m2, k27m3, k27m4, k27m5, k27m6, k27m7, k27m8, k27m9]
  instanceTypes := #[(.object "java/lang/String"), .int, (.array .int), (.array .int), .int, (.array .int), .int, (.array (.object "java/util/regex/Matcher")), (.array (.array .long)), .int, (.array .long), .int, (.object "com/example/honest_errors/honesterrors/jsonschema/RegexProgram")]
  staticTypes := #[.int, .int]
  resolved := Array.replicate 377 none
  statics := none }

def pool28 : Array CpInfo := pool [(3, .class_ 4), (0, u "java/lang/String"), (1, .class_ 8), (1, u "java/lang/Object"), (0, u "<init>"), (0, u "()V"), (0, .methodref 12 13), (0, .class_ 14), (0, .nameAndType 15 16), (0, u "java/lang/StringUTF16"), (0, u "newBytesLength"), (0, u "(I)I"), (3, .integer 1073741823), (23, .fieldref 12 45), (0, .nameAndType 46 47), (0, u "$assertionsDisabled"), (0, u "Z"), (0, .methodref 12 49), (0, .nameAndType 50 51), (0, u "length"), (0, u "([B)I"), (7, .fieldref 12 60), (0, .nameAndType 61 62), (0, u "HI_BYTE_SHIFT"), (0, u "I"), (0, .fieldref 12 64), (0, .nameAndType 65 62), (0, u "LO_BYTE_SHIFT"), (1, .methodref 12 68), (0, .nameAndType 69 70), (0, u "checkIndex"), (0, u "(I[B)V"), (0, .methodref 12 72), (0, .nameAndType 73 74), (0, u "getChar"), (0, u "([BI)C"), (0, .methodref 76 77), (0, .class_ 78), (0, .nameAndType 79 80), (0, u "java/lang/Character"), (0, u "isHighSurrogate"), (0, u "(C)Z"), (0, .methodref 76 82), (0, .nameAndType 83 80), (0, u "isLowSurrogate"), (0, .methodref 76 85), (0, .nameAndType 86 87), (0, u "toCodePoint"), (0, u "(CC)I"), (0, .methodref 12 89), (0, .nameAndType 90 91), (0, u "codePointAt"), (0, u "([BIIZ)I"), (15, .methodref 12 108), (0, .nameAndType 109 110), (0, u "newBytesFor"), (0, u "(I)[B"), (0, .methodref 12 112), (0, .nameAndType 113 114), (0, u "putChar"), (0, u "([BII)V"), (0, .methodref 12 116), (0, .nameAndType 117 118), (0, u "compress"), (0, u "([CI[BII)I"), (0, .methodref 12 120), (0, .nameAndType 121 122), (0, u "toBytes"), (0, u "([CII)[B"), (127, u "([BII)I"), (10, u "coderFromArrayLen"), (0, u "([BI)B"), (106, .class_ 371), (1, u "java/lang/StringUTF16$LinesSpliterator"), (20, u "charAt"), (21, .methodref 3 415), (0, .nameAndType 69 416), (0, u "(II)V"), (13, u "MAX_LENGTH"), (196, .class_ 628), (0, u "java/lang/StringUTF16$CodePointsSpliterator"), (0, .class_ 630), (0, u "java/lang/StringUTF16$CharsSpliterator")] 4

def k28m0 : Method := { name := "<init>", desc := "()V", sig := { parameters := [], returnType := none }, accessFlags := 0, code := none }
def k28c1 : Code := cd 1 1 jdk_52_method_2_code
def k28m1 : Method := mt "newBytesFor" "(I)[B" [.int] (some (.array .byte)) 9 k28c1
def k28c2 : Code := cd 4 1 jdk_52_method_3_code
def k28m2 : Method := mt "newBytesLength" "(I)I" [.int] (some .int) 9 k28c2
def k28c3 : Code := cd 4 3 jdk_52_method_4_code
def k28m3 : Method := mt "putChar" "([BII)V" [(.array .byte), .int, .int] (none) 8 k28c3
def k28c4 : Code := cd 3 2 jdk_52_method_5_code
def k28m4 : Method := mt "getChar" "([BI)C" [(.array .byte), .int] (some .char) 8 k28c4
def k28c5 : Code := cd 2 1 jdk_52_method_6_code
def k28m5 : Method := mt "length" "([B)I" [(.array .byte)] (some .int) 9 k28c5
def k28c6 : Code := cd 2 6 jdk_52_method_7_code
def k28m6 : Method := mt "codePointAt" "([BIIZ)I" [(.array .byte), .int, .int, .boolean] (some .int) 10 k28c6
def k28c7 : Code := cd 4 3 jdk_52_method_8_code
def k28m7 : Method := mt "codePointAt" "([BII)I" [(.array .byte), .int, .int] (some .int) 9 k28c7
def k28c8 : Code := cd 4 5 jdk_52_method_14_code
def k28m8 : Method := mt "toBytes" "([CII)[B" [(.array .char), .int, .int] (some (.array .byte)) 9 k28c8
def k28c9 : Code := cd 2 2 jdk_52_method_15_code
def k28m9 : Method := mt "coderFromArrayLen" "([BI)B" [(.array .byte), .int] (some .byte) 8 k28c9
def k28c10 : Code := cd 5 6 jdk_52_method_16_code
def k28m10 : Method := mt "compress" "([CII)[B" [(.array .char), .int, .int] (some (.array .byte)) 9 k28c10
def k28c11 : Code := cd 3 7 jdk_52_method_21_code
def k28m11 : Method := mt "compress" "([CI[BII)I" [(.array .char), .int, (.array .byte), .int, .int] (some .int) 9 k28c11
def k28c12 : Code := cd 2 2 jdk_52_method_83_code
def k28m12 : Method := mt "charAt" "([BI)C" [(.array .byte), .int] (some .char) 9 k28c12
def k28c13 : Code := cd 2 2 jdk_52_method_91_code
def k28m13 : Method := mt "checkIndex" "(I[B)V" [.int, (.array .byte)] (none) 9 k28c13
/-- java/lang/StringUTF16 -/
def k28 : Class := { plain "java/lang/StringUTF16" (some 0) with
  accessFlags := 48
  cf := some (fileOf pool28 12 #[.nestMembers #[627, 629, 369]] #[(mi 0 9 10), (mi 9 109 110), (mi 9 15 16), (mi 8 113 114), (mi 8 73 74), (mi 9 50 51), (mi 10 90 91), (mi 9 90 250), (mi 9 121 122), (mi 8 261 262), (mi 9 117 122), (mi 9 117 118), (mi 9 392 74), (mi 9 69 70)] 48 6 #[] #[(fi 26 61 62), (fi 26 65 62), (fi 24 430 62), (fi 4120 46 47)])
  fields := #[(fl "HI_BYTE_SHIFT" .int 26 0 0), (fl "LO_BYTE_SHIFT" .int 26 1 0), (fl "MAX_LENGTH" .int 24 2 0), (fl "$assertionsDisabled" .boolean 4120 3 0)]
  methods := #[k28m0, k28m1, k28m2, k28m3, k28m4, k28m5, k28m6, k28m7, k28m8, k28m9, k28m10, k28m11, k28m12, k28m13]
  staticTypes := #[.int, .int, .int, .boolean]
  resolved := Array.replicate 635 none
  statics := some 2 }

def pool29 : Array CpInfo := pool [(2, .class_ 4), (1, u "java/lang/Object"), (0, u "<init>"), (0, u "()V"), (17, .class_ 26), (1, u "jdk/internal/util/Preconditions"), (6, u "checkIndex"), (21, .class_ 56), (0, u "jdk/internal/util/Preconditions$4"), (57, .class_ 115), (0, u "jdk/internal/util/Preconditions$1"), (7, u "SIOOBE_FORMATTER"), (0, u "Ljava/util/function/BiFunction;"), (0, .class_ 126), (0, u "jdk/internal/util/Preconditions$2"), (3, u "AIOOBE_FORMATTER"), (0, .class_ 132), (0, u "jdk/internal/util/Preconditions$3"), (3, u "IOOBE_FORMATTER"), (41, u "(IILjava/util/function/BiFunction;)I")] 15

def k29m0 : Method := { name := "<init>", desc := "()V", sig := { parameters := [], returnType := none }, accessFlags := 1, code := none }
def k29c1 : Code := cd 3 3 jdk_41_method_11_code
def k29m1 : Method := mt "checkIndex" "(IILjava/util/function/BiFunction;)I" [.int, .int, (.object "java/util/function/BiFunction")] (some .int) 9 k29c1
/-- jdk/internal/util/Preconditions -/
def k29 : Class := { plain "jdk/internal/util/Preconditions" (some 0) with
  cf := some (fileOf pool29 24 #[.nestMembers #[55, 131, 125, 114]] #[(mi 1 5 6), (mi 9 33 178)] 33 2 #[] #[(fi 25 123 124), (fi 25 130 124), (fi 25 136 124)])
  fields := #[(fl "SIOOBE_FORMATTER" (.object "java/util/function/BiFunction") 25 0 0), (fl "AIOOBE_FORMATTER" (.object "java/util/function/BiFunction") 25 1 0), (fl "IOOBE_FORMATTER" (.object "java/util/function/BiFunction") 25 2 0)]
  methods := #[k29m0, k29m1]
  staticTypes := #[(.object "java/util/function/BiFunction"), (.object "java/util/function/BiFunction"), (.object "java/util/function/BiFunction")]
  resolved := Array.replicate 194 none
  statics := some 3 }

def pool30 : Array CpInfo := pool [(1, .class_ 2), (0, u "java/lang/Character"), (18, u "value"), (0, u "C"), (19, .class_ 44), (1, u "java/lang/Object"), (3, .class_ 50), (1, u "java/lang/Character$CharacterCache"), (22, .integer 65536), (1, .integer 55296), (0, .integer 56320), (0, .integer 57344), (2, u "isHighSurrogate"), (0, u "(C)Z"), (2, u "isLowSurrogate"), (0, .integer 4238353408), (12, u "toCodePoint"), (0, u "(CC)I"), (74, u "(I)I"), (109, u "$assertionsDisabled"), (0, u "Z"), (21, .class_ 309), (1, u "java/lang/Character$UnicodeBlock"), (73, u "TYPE"), (0, u "Ljava/lang/Class;"), (0, .class_ 386), (0, u "java/io/Serializable"), (0, .class_ 388), (0, u "java/lang/Comparable"), (0, .class_ 390), (0, u "java/lang/constant/Constable"), (0, u "MIN_RADIX"), (0, u "I"), (2, u "MAX_RADIX"), (1, u "MIN_VALUE"), (1, u "MAX_VALUE"), (3, u "UNASSIGNED"), (0, u "B"), (0, u "UPPERCASE_LETTER"), (1, u "LOWERCASE_LETTER"), (0, u "TITLECASE_LETTER"), (1, u "MODIFIER_LETTER"), (1, u "OTHER_LETTER"), (1, u "NON_SPACING_MARK"), (1, u "ENCLOSING_MARK"), (1, u "COMBINING_SPACING_MARK"), (1, u "DECIMAL_DIGIT_NUMBER"), (1, u "LETTER_NUMBER"), (1, u "OTHER_NUMBER"), (1, u "SPACE_SEPARATOR"), (1, u "LINE_SEPARATOR"), (1, u "PARAGRAPH_SEPARATOR"), (1, u "CONTROL"), (1, u "FORMAT"), (1, u "PRIVATE_USE"), (1, u "SURROGATE"), (1, u "DASH_PUNCTUATION"), (1, u "START_PUNCTUATION"), (1, u "END_PUNCTUATION"), (1, u "CONNECTOR_PUNCTUATION"), (1, u "OTHER_PUNCTUATION"), (1, u "MATH_SYMBOL"), (1, u "CURRENCY_SYMBOL"), (1, u "MODIFIER_SYMBOL"), (1, u "OTHER_SYMBOL"), (1, u "INITIAL_QUOTE_PUNCTUATION"), (1, u "FINAL_QUOTE_PUNCTUATION"), (1, u "ERROR"), (1, u "DIRECTIONALITY_UNDEFINED"), (0, u "DIRECTIONALITY_LEFT_TO_RIGHT"), (0, u "DIRECTIONALITY_RIGHT_TO_LEFT"), (0, u "DIRECTIONALITY_RIGHT_TO_LEFT_ARABIC"), (0, u "DIRECTIONALITY_EUROPEAN_NUMBER"), (0, u "DIRECTIONALITY_EUROPEAN_NUMBER_SEPARATOR"), (0, u "DIRECTIONALITY_EUROPEAN_NUMBER_TERMINATOR"), (0, u "DIRECTIONALITY_ARABIC_NUMBER"), (0, u "DIRECTIONALITY_COMMON_NUMBER_SEPARATOR"), (0, u "DIRECTIONALITY_NONSPACING_MARK"), (0, u "DIRECTIONALITY_BOUNDARY_NEUTRAL"), (0, u "DIRECTIONALITY_PARAGRAPH_SEPARATOR"), (0, u "DIRECTIONALITY_SEGMENT_SEPARATOR"), (0, u "DIRECTIONALITY_WHITESPACE"), (0, u "DIRECTIONALITY_OTHER_NEUTRALS"), (0, u "DIRECTIONALITY_LEFT_TO_RIGHT_EMBEDDING"), (0, u "DIRECTIONALITY_LEFT_TO_RIGHT_OVERRIDE"), (0, u "DIRECTIONALITY_RIGHT_TO_LEFT_EMBEDDING"), (0, u "DIRECTIONALITY_RIGHT_TO_LEFT_OVERRIDE"), (1, u "DIRECTIONALITY_POP_DIRECTIONAL_FORMAT"), (0, u "DIRECTIONALITY_LEFT_TO_RIGHT_ISOLATE"), (0, u "DIRECTIONALITY_RIGHT_TO_LEFT_ISOLATE"), (0, u "DIRECTIONALITY_FIRST_STRONG_ISOLATE"), (0, u "DIRECTIONALITY_POP_DIRECTIONAL_ISOLATE"), (0, u "MIN_HIGH_SURROGATE"), (0, u "MAX_HIGH_SURROGATE"), (1, u "MIN_LOW_SURROGATE"), (0, u "MAX_LOW_SURROGATE"), (1, u "MIN_SURROGATE"), (0, u "MAX_SURROGATE"), (0, u "MIN_SUPPLEMENTARY_CODE_POINT"), (0, u "MIN_CODE_POINT"), (0, u "MAX_CODE_POINT"), (1, u "serialVersionUID"), (0, u "J"), (2, u "SIZE"), (0, u "BYTES"), (24, u "isSurrogate"), (4, u "charCount"), (58, .class_ 596), (0, u "java/lang/Character$UnicodeScript"), (0, .class_ 598), (0, u "java/lang/Character$Subset")] 5

def k30c0 : Code := cd 2 1 jdk_89_method_14_code
def k30m0 : Method := mt "isHighSurrogate" "(C)Z" [.char] (some .boolean) 9 k30c0
def k30c1 : Code := cd 2 1 jdk_89_method_15_code
def k30m1 : Method := mt "isLowSurrogate" "(C)Z" [.char] (some .boolean) 9 k30c1
def k30c2 : Code := cd 2 1 jdk_89_method_16_code
def k30m2 : Method := mt "isSurrogate" "(C)Z" [.char] (some .boolean) 9 k30c2
def k30c3 : Code := cd 2 1 jdk_89_method_18_code
def k30m3 : Method := mt "charCount" "(I)I" [.int] (some .int) 9 k30c3
def k30c4 : Code := cd 2 2 jdk_89_method_19_code
def k30m4 : Method := mt "toCodePoint" "(CC)I" [.char, .char] (some .int) 9 k30c4
/-- java/lang/Character -/
def k30 : Class := { plain "java/lang/Character" (some 0) with
  accessFlags := 49
  interfaces := #[2, 3, 5]
  cf := some (fileOf pool30 1 #[.nestMembers #[48, 595, 307, 597]] #[(mi 9 80 81), (mi 9 84 81), (mi 9 531 81), (mi 9 536 174), (mi 9 98 99)] 49 42 #[385, 387, 389] #[(fi 25 391 392), (fi 25 395 392), (fi 25 397 22), (fi 25 399 22), (fi 25 383 384), (fi 25 403 404), (fi 25 405 404), (fi 25 407 404), (fi 25 408 404), (fi 25 410 404), (fi 25 412 404), (fi 25 414 404), (fi 25 416 404), (fi 25 418 404), (fi 25 420 404), (fi 25 422 404), (fi 25 424 404), (fi 25 426 404), (fi 25 428 404), (fi 25 430 404), (fi 25 432 404), (fi 25 434 404), (fi 25 436 404), (fi 25 438 404), (fi 25 440 404), (fi 25 442 404), (fi 25 444 404), (fi 25 446 404), (fi 25 448 404), (fi 25 450 404), (fi 25 452 404), (fi 25 454 404), (fi 25 456 404), (fi 25 458 404), (fi 25 460 404), (fi 24 462 392), (fi 25 464 404), (fi 25 465 404), (fi 25 466 404), (fi 25 467 404), (fi 25 468 404), (fi 25 469 404), (fi 25 470 404), (fi 25 471 404), (fi 25 472 404), (fi 25 473 404), (fi 25 474 404), (fi 25 475 404), (fi 25 476 404), (fi 25 477 404), (fi 25 478 404), (fi 25 479 404), (fi 25 480 404), (fi 25 481 404), (fi 25 482 404), (fi 25 484 404), (fi 25 485 404), (fi 25 486 404), (fi 25 487 404), (fi 25 488 404), (fi 25 489 22), (fi 25 490 22), (fi 25 492 22), (fi 25 493 22), (fi 25 495 22), (fi 25 496 22), (fi 25 497 392), (fi 25 498 392), (fi 25 499 392), (fi 18 21 22), (fi 26 501 502), (fi 25 505 392), (fi 25 506 392), (fi 4120 284 285)])
  fields := #[(fl "MIN_RADIX" .int 25 0 0), (fl "MAX_RADIX" .int 25 1 0), (fl "MIN_VALUE" .char 25 2 0), (fl "MAX_VALUE" .char 25 3 0), (fl "TYPE" (.object "java/lang/Class") 25 4 0), (fl "UNASSIGNED" .byte 25 5 0), (fl "UPPERCASE_LETTER" .byte 25 6 0), (fl "LOWERCASE_LETTER" .byte 25 7 0), (fl "TITLECASE_LETTER" .byte 25 8 0), (fl "MODIFIER_LETTER" .byte 25 9 0), (fl "OTHER_LETTER" .byte 25 10 0), (fl "NON_SPACING_MARK" .byte 25 11 0), (fl "ENCLOSING_MARK" .byte 25 12 0), (fl "COMBINING_SPACING_MARK" .byte 25 13 0), (fl "DECIMAL_DIGIT_NUMBER" .byte 25 14 0), (fl "LETTER_NUMBER" .byte 25 15 0), (fl "OTHER_NUMBER" .byte 25 16 0), (fl "SPACE_SEPARATOR" .byte 25 17 0), (fl "LINE_SEPARATOR" .byte 25 18 0), (fl "PARAGRAPH_SEPARATOR" .byte 25 19 0), (fl "CONTROL" .byte 25 20 0), (fl "FORMAT" .byte 25 21 0), (fl "PRIVATE_USE" .byte 25 22 0), (fl "SURROGATE" .byte 25 23 0), (fl "DASH_PUNCTUATION" .byte 25 24 0), (fl "START_PUNCTUATION" .byte 25 25 0), (fl "END_PUNCTUATION" .byte 25 26 0), (fl "CONNECTOR_PUNCTUATION" .byte 25 27 0), (fl "OTHER_PUNCTUATION" .byte 25 28 0), (fl "MATH_SYMBOL" .byte 25 29 0), (fl "CURRENCY_SYMBOL" .byte 25 30 0), (fl "MODIFIER_SYMBOL" .byte 25 31 0), (fl "OTHER_SYMBOL" .byte 25 32 0), (fl "INITIAL_QUOTE_PUNCTUATION" .byte 25 33 0), (fl "FINAL_QUOTE_PUNCTUATION" .byte 25 34 0), (fl "ERROR" .int 24 35 0), (fl "DIRECTIONALITY_UNDEFINED" .byte 25 36 0), (fl "DIRECTIONALITY_LEFT_TO_RIGHT" .byte 25 37 0), (fl "DIRECTIONALITY_RIGHT_TO_LEFT" .byte 25 38 0), (fl "DIRECTIONALITY_RIGHT_TO_LEFT_ARABIC" .byte 25 39 0), (fl "DIRECTIONALITY_EUROPEAN_NUMBER" .byte 25 40 0), (fl "DIRECTIONALITY_EUROPEAN_NUMBER_SEPARATOR" .byte 25 41 0), (fl "DIRECTIONALITY_EUROPEAN_NUMBER_TERMINATOR" .byte 25 42 0), (fl "DIRECTIONALITY_ARABIC_NUMBER" .byte 25 43 0), (fl "DIRECTIONALITY_COMMON_NUMBER_SEPARATOR" .byte 25 44 0), (fl "DIRECTIONALITY_NONSPACING_MARK" .byte 25 45 0), (fl "DIRECTIONALITY_BOUNDARY_NEUTRAL" .byte 25 46 0), (fl "DIRECTIONALITY_PARAGRAPH_SEPARATOR" .byte 25 47 0), (fl "DIRECTIONALITY_SEGMENT_SEPARATOR" .byte 25 48 0), (fl "DIRECTIONALITY_WHITESPACE" .byte 25 49 0), (fl "DIRECTIONALITY_OTHER_NEUTRALS" .byte 25 50 0), (fl "DIRECTIONALITY_LEFT_TO_RIGHT_EMBEDDING" .byte 25 51 0), (fl "DIRECTIONALITY_LEFT_TO_RIGHT_OVERRIDE" .byte 25 52 0), (fl "DIRECTIONALITY_RIGHT_TO_LEFT_EMBEDDING" .byte 25 53 0), (fl "DIRECTIONALITY_RIGHT_TO_LEFT_OVERRIDE" .byte 25 54 0), (fl "DIRECTIONALITY_POP_DIRECTIONAL_FORMAT" .byte 25 55 0), (fl "DIRECTIONALITY_LEFT_TO_RIGHT_ISOLATE" .byte 25 56 0), (fl "DIRECTIONALITY_RIGHT_TO_LEFT_ISOLATE" .byte 25 57 0), (fl "DIRECTIONALITY_FIRST_STRONG_ISOLATE" .byte 25 58 0), (fl "DIRECTIONALITY_POP_DIRECTIONAL_ISOLATE" .byte 25 59 0), (fl "MIN_HIGH_SURROGATE" .char 25 60 0), (fl "MAX_HIGH_SURROGATE" .char 25 61 0), (fl "MIN_LOW_SURROGATE" .char 25 62 0), (fl "MAX_LOW_SURROGATE" .char 25 63 0), (fl "MIN_SURROGATE" .char 25 64 0), (fl "MAX_SURROGATE" .char 25 65 0), (fl "MIN_SUPPLEMENTARY_CODE_POINT" .int 25 66 0), (fl "MIN_CODE_POINT" .int 25 67 0), (fl "MAX_CODE_POINT" .int 25 68 0), (fl "value" .char 18 0 0), (fl "serialVersionUID" .long 26 69 0), (fl "SIZE" .int 25 70 0), (fl "BYTES" .int 25 71 0), (fl "$assertionsDisabled" .boolean 4120 72 0)]
  methods := #[k30m0, k30m1, k30m2, k30m3, k30m4]
  instanceTypes := #[.char]
  staticTypes := #[.int, .int, .char, .char, (.object "java/lang/Class"), .byte, .byte, .byte, .byte, .byte, .byte, .byte, .byte, .byte, .byte, .byte, .byte, .byte, .byte, .byte, .byte, .byte, .byte, .byte, .byte, .byte, .byte, .byte, .byte, .byte, .byte, .byte, .byte, .byte, .byte, .int, .byte, .byte, .byte, .byte, .byte, .byte, .byte, .byte, .byte, .byte, .byte, .byte, .byte, .byte, .byte, .byte, .byte, .byte, .byte, .byte, .byte, .byte, .byte, .byte, .char, .char, .char, .char, .char, .char, .int, .int, .int, .long, .int, .int, .boolean]
  resolved := Array.replicate 604 none
  statics := none }

def pool31 : Array CpInfo := pool [(1, .class_ 2), (0, u "java/lang/String"), (1, .class_ 6), (1, u "java/lang/Object"), (0, u "<init>"), (0, u "()V"), (0, .methodref 1 10), (0, .nameAndType 11 12), (0, u "checkIndex"), (0, u "(II)V"), (1, .class_ 16), (1, u "java/lang/StringLatin1"), (36, u "([BI)C"), (67, u "$assertionsDisabled"), (0, u "Z"), (98, .class_ 223), (1, u "java/lang/StringLatin1$LinesSpliterator"), (28, u "charAt"), (137, .class_ 391), (0, u "java/lang/StringLatin1$CharsSpliterator")] 3

def k31m0 : Method := { name := "<init>", desc := "()V", sig := { parameters := [], returnType := none }, accessFlags := 0, code := none }
def k31c1 : Code := cd 2 2 jdk_43_method_2_code
def k31m1 : Method := mt "charAt" "([BI)C" [(.array .byte), .int] (some .char) 9 k31c1
/-- java/lang/StringLatin1 -/
def k31 : Class := { plain "java/lang/StringLatin1" (some 0) with
  accessFlags := 48
  cf := some (fileOf pool31 14 #[.nestMembers #[390, 221]] #[(mi 0 7 8), (mi 9 252 53)] 48 4 #[] #[(fi 4120 121 122)])
  fields := #[(fl "$assertionsDisabled" .boolean 4120 0 0)]
  methods := #[k31m0, k31m1]
  staticTypes := #[.boolean]
  resolved := Array.replicate 395 none
  statics := none }

def pool32 : Array CpInfo := pool [(9, u "<init>"), (6, .class_ 18), (1, u "java/lang/Object"), (0, u "()V"), (1, .class_ 23), (1, u "jdk/internal/util/ArraysSupport"), (0, u "LOG2_ARRAY_LONG_INDEX_SCALE"), (0, u "I"), (2, u "U"), (0, u "Ljdk/internal/misc/Unsafe;"), (8, u "BIG_ENDIAN"), (0, u "Z"), (8, u "LOG2_BYTE_BIT_SIZE"), (4, u "LOG2_ARRAY_INT_INDEX_SCALE"), (54, u "JLA"), (0, u "Ljdk/internal/access/JavaLangAccess;"), (11, u "LOG2_ARRAY_BOOLEAN_INDEX_SCALE"), (9, u "LOG2_ARRAY_BYTE_INDEX_SCALE"), (5, u "LOG2_ARRAY_CHAR_INDEX_SCALE"), (5, u "LOG2_ARRAY_SHORT_INDEX_SCALE"), (18, u "LOG2_ARRAY_FLOAT_INDEX_SCALE"), (24, u "LOG2_ARRAY_DOUBLE_INDEX_SCALE"), (89, u "T_BOOLEAN"), (2, u "T_CHAR"), (1, u "T_FLOAT"), (1, u "T_DOUBLE"), (1, u "T_BYTE"), (1, u "T_SHORT"), (1, u "T_INT"), (1, u "T_LONG"), (1, u "SOFT_MAX_ARRAY_LENGTH")] 83

def k32m0 : Method := { name := "<init>", desc := "()V", sig := { parameters := [], returnType := none }, accessFlags := 2, code := none }
/-- jdk/internal/util/ArraysSupport -/
def k32 : Class := { plain "jdk/internal/util/ArraysSupport" (some 0) with
  cf := some (fileOf pool32 21 #[] #[(mi 2 9 19)] 33 16 #[] #[(fi 24 28 29), (fi 26 38 39), (fi 25 121 25), (fi 25 131 25), (fi 25 137 25), (fi 25 143 25), (fi 25 53 25), (fi 25 24 25), (fi 25 162 25), (fi 25 187 25), (fi 26 48 25), (fi 25 277 25), (fi 25 280 25), (fi 25 282 25), (fi 25 284 25), (fi 25 286 25), (fi 25 288 25), (fi 25 290 25), (fi 25 292 25), (fi 26 108 109), (fi 25 294 25)])
  fields := #[(fl "U" (.object "jdk/internal/misc/Unsafe") 24 0 0), (fl "BIG_ENDIAN" .boolean 26 1 0), (fl "LOG2_ARRAY_BOOLEAN_INDEX_SCALE" .int 25 2 0), (fl "LOG2_ARRAY_BYTE_INDEX_SCALE" .int 25 3 0), (fl "LOG2_ARRAY_CHAR_INDEX_SCALE" .int 25 4 0), (fl "LOG2_ARRAY_SHORT_INDEX_SCALE" .int 25 5 0), (fl "LOG2_ARRAY_INT_INDEX_SCALE" .int 25 6 0), (fl "LOG2_ARRAY_LONG_INDEX_SCALE" .int 25 7 0), (fl "LOG2_ARRAY_FLOAT_INDEX_SCALE" .int 25 8 0), (fl "LOG2_ARRAY_DOUBLE_INDEX_SCALE" .int 25 9 0), (fl "LOG2_BYTE_BIT_SIZE" .int 26 10 0), (fl "T_BOOLEAN" .int 25 11 0), (fl "T_CHAR" .int 25 12 0), (fl "T_FLOAT" .int 25 13 0), (fl "T_DOUBLE" .int 25 14 0), (fl "T_BYTE" .int 25 15 0), (fl "T_SHORT" .int 25 16 0), (fl "T_INT" .int 25 17 0), (fl "T_LONG" .int 25 18 0), (fl "JLA" (.object "jdk/internal/access/JavaLangAccess") 26 19 0), (fl "SOFT_MAX_ARRAY_LENGTH" .int 25 20 0)]
  methods := #[k32m0]
  staticTypes := #[(.object "jdk/internal/misc/Unsafe"), .boolean, .int, .int, .int, .int, .int, .int, .int, .int, .int, .int, .int, .int, .int, .int, .int, .int, .int, (.object "jdk/internal/access/JavaLangAccess"), .int]
  resolved := Array.replicate 378 none
  statics := none }

/-- the primitive byte -/
def k33 : Class := { plain "byte" none with kind := .primitive 'B', accessFlags := 0x411 }
/-- [B -/
def k34 : Class := { plain "[B" (some 0) with kind := .array 33 .byte, interfaces := #[16, 2], accessFlags := 1041 }

/-- the primitive char -/
def k35 : Class := { plain "char" none with kind := .primitive 'C', accessFlags := 0x411 }
/-- [C -/
def k36 : Class := { plain "[C" (some 0) with kind := .array 35 .char, interfaces := #[16, 2], accessFlags := 1041 }

/-- the primitive int -/
def k37 : Class := { plain "int" none with kind := .primitive 'I', accessFlags := 0x411 }
/-- [I -/
def k38 : Class := { plain "[I" (some 0) with kind := .array 37 .int, interfaces := #[16, 2], accessFlags := 1041 }

/-- [Lcom/example/honest_errors/honesterrors/jsonschema/RegexLeaf; -/
def k39 : Class := { plain "[Lcom/example/honest_errors/honesterrors/jsonschema/RegexLeaf;" (some 0) with kind := .array 26 (.object "com/example/honest_errors/honesterrors/jsonschema/RegexLeaf"), interfaces := #[16, 2], accessFlags := 1041 }

/-- [Ljava/lang/Object; -/
def k40 : Class := { plain "[Ljava/lang/Object;" (some 0) with kind := .array 0 (.object "java/lang/Object"), interfaces := #[16, 2], accessFlags := 1041 }

def k41 : Class := { plain "[[I" (some 0) with kind := .array 38 (.array .int), interfaces := #[16, 2], accessFlags := 1041 }
def heap : Heap := #[{ cls := 7, slots := #[.long 0, .int 1, .null, .int 0, .null, .int 0, .int 0], vm := .statics 7 },
  { cls := 17, slots := #[.long 0, .int 0, .ref 4, .ref 5], vm := .statics 17 },
  { cls := 28, slots := #[.int 0, .int 8, .int 0, .int 1], vm := .statics 28 },
  { cls := 29, slots := #[.null, .null, .null], vm := .statics 29 },
  { cls := 40, slots := #[], vm := .none },
  { cls := 40, slots := #[], vm := .none },
  { cls := 25, slots := #[.int 0, .int 0, .int 0, .int 0, .int 0, .int 0, .int 0, .int 0, .int 0, .int 0, .int 0, .int 0, .int 0, .int 0, .int 0, .int 0, .int 0, .int 0, .int 0, .int 0, .int 0, .int 0, .int 0, .int 0, .int 0, .int 0, .int 0, .int 0, .int 0, .int 0, .int 0, .int 0, .int 0, .int 0, .int 0, .int 0, .int 0, .int 0, .ref 7], vm := .statics 25 },
  { cls := 38, slots := #[], vm := .none }]
def classes : Array Class := #[k0, k1, k2, k3, k4, k5, k6, k7, k8, k9, k10, k11, k12, k13, k14, k15, k16, k17, k18, k19, k20, k21, k22, k23, k24, k25, k26, k27, k28, k29, k30, k31, k32, k33, k34, k35, k36, k37, k38, k39, k40, k41]
def interned : List (Array UInt16 × Addr) := []
def slotsUsed : Nat := 57
def theMethod : MethodId := ⟨1, 1⟩
def args0 : Array Value := #[.int 6, .int 7, .int 9, .int 11, .int 3]
def aboutOver (below : List Frame) : State where
  vm := { classes := classes, interned := interned.toArray }
  heap := heap
  slotsUsed := slotsUsed
  threads := #[{ frames := .invoking theMethod args0 :: below }]
def below0 : List Frame := [.native { method := ⟨0, 0⟩, args := #[] }]
def about1 : State := aboutOver below0
def p0 : Program := .bare "" "" ""
def e0 : Env := launch0.env 0 0 0
theorem w_frames : about1.frames = Frame.invoking theMethod args0 :: below0 := rfl
theorem w_args : argsFit about1.vm theMethod args0 = true := by decide +kernel
theorem w_heap : heapFits about1 = true := by decide +kernel
theorem w_runnable : about1.curStatus? = some .runnable := by decide +kernel
theorem w_alone : about1.alone = true := by decide +kernel
theorem w_named : about1.methodNamed? x = some theMethod := by decide +kernel
theorem w_hears : about1.hears theMethod below0 = true := by decide +kernel
theorem w_ripe : about1.ripe theMethod args0 below0 = true := by decide +kernel
theorem w_running : about1.status = .running := rfl
theorem w_room : about1.hasRoom e0.platform room_1 = true :=
  launch0.hasRoom_least _ room_1 (by decide +kernel) (by decide +kernel) (by decide +kernel) (by decide +kernel) (by decide +kernel) (by decide +kernel)
theorem allAtoms_all (ts : List Jvm.Cond) (a : Array Jvm.Value) (st : Jvm.State) : (allAtoms ts).before a st = ts.all (fun c => c.before a st) := by
  induction ts with
  | nil => rfl
  | cons c t ih =>
    show (Jvm.Cond.and c (allAtoms t)).before a st = _
    rw [Jvm.Cond.before_and, ih, List.all_cons]
def words1 : List Jvm.Cond := Jvm.Cond.code x code maxLocals ret :: tables_1
/-- a 'code' word, met by the world's own term for the bytes: nothing is compared byte by byte -/
theorem code_word {y : MethodName} {bytes : ByteArray} {mx : Nat} {rt : Option FieldType} {a : Array Value} {s : State} {m : MethodId} {meth : Method} {c : Code} (h1 : s.methodNamed? y = some m) (h2 : s.vm.method? m = some meth) (h3 : meth.code = some c) (h4 : c.code = bytes)
    (h5 : (c.maxLocals == mx && c.exceptionTable.isEmpty && decide (c.maxStack ≤ mostOperands) && decide (meth.sig.returnType = rt) && !meth.locks && decide (parseMethodDescriptor y.desc = some meth.sig)) = true) : (Jvm.Cond.code y bytes mx rt).before a s = true := by
  simp only [Bool.and_eq_true, beq_iff_eq, Bool.not_eq_true', decide_eq_true_eq] at h5
  obtain ⟨⟨⟨⟨⟨g1, g2⟩, g3⟩, g4⟩, g5⟩, g6⟩ := h5
  simp [Cond.before, Cond.holds, Cond.value, h1, h2, h3, h4, g1, g2, g3, g4, g5, g6]
def isCode : Jvm.Cond → Bool
  | .code _ _ _ _ => true
  | _ => false
theorem all_split {L : List Jvm.Cond} {P : Jvm.Cond → Bool} (h1 : L.all (fun c => isCode c || P c) = true) (h2 : ∀ c ∈ L.filter isCode, P c = true) : L.all P = true := by
  refine List.all_eq_true.mpr fun c hc => ?_
  have h := List.all_eq_true.mp h1 c hc
  rcases Bool.eq_false_or_eq_true (isCode c) with hi | hi
  · exact h2 c (List.mem_filter.mpr ⟨hc, hi⟩)
  · simpa [hi] using h
theorem w_c0 : (Jvm.Cond.code x code maxLocals ret).before args0 about1 = true := code_word (m := ⟨1, 1⟩) (meth := k1m1) (c := k1c1) (by decide +kernel) rfl rfl rfl (by decide +kernel)
theorem w_c1 : (Jvm.Cond.code Y68 method_3_code (5 : Nat) (some .char)).before args0 about1 = true := code_word (m := ⟨1, 2⟩) (meth := k1m2) (c := k1c2) (by decide +kernel) rfl rfl rfl (by decide +kernel)
theorem w_c2 : (Jvm.Cond.code Y15 jdk_42_method_3_code (2 : Nat) none).before args0 about1 = true := code_word (m := ⟨7, 1⟩) (meth := k7m1) (c := k7c1) (by decide +kernel) rfl rfl rfl (by decide +kernel)
theorem w_c3 : (Jvm.Cond.code Y14 jdk_42_method_149_code (6 : Nat) none).before args0 about1 = true := code_word (m := ⟨7, 5⟩) (meth := k7m5) (c := k7c5) (by decide +kernel) rfl rfl rfl (by decide +kernel)
theorem w_c4 : (Jvm.Cond.code ({ cls := "java/lang/Object", name := "<init>", desc := "()V" } : Jvm.MethodName) object_method_1_code (1 : Nat) none).before args0 about1 = true := code_word (m := ⟨0, 0⟩) (meth := k0m0) (c := k0c0) (by decide +kernel) rfl rfl rfl (by decide +kernel)
theorem w_c5 : (Jvm.Cond.code Y35 prog_28_method_1_code (1 : Nat) none).before args0 about1 = true := code_word (m := ⟨8, 0⟩) (meth := k8m0) (c := k8c0) (by decide +kernel) rfl rfl rfl (by decide +kernel)
theorem w_c6 : (Jvm.Cond.code Y32 jdk_38_method_2_code (1 : Nat) none).before args0 about1 = true := code_word (m := ⟨17, 0⟩) (meth := k17m0) (c := k17c0) (by decide +kernel) rfl rfl rfl (by decide +kernel)
theorem w_c7 : (Jvm.Cond.code Y31 jdk_39_method_1_code (1 : Nat) none).before args0 about1 = true := code_word (m := ⟨14, 0⟩) (meth := k14m0) (c := k14c0) (by decide +kernel) rfl rfl rfl (by decide +kernel)
theorem w_c8 : (Jvm.Cond.code Y30 jdk_22_method_1_code (1 : Nat) none).before args0 about1 = true := code_word (m := ⟨11, 0⟩) (meth := k11m0) (c := k11c0) (by decide +kernel) rfl rfl rfl (by decide +kernel)
theorem w_c9 : (Jvm.Cond.code Y34 jdk_69_method_7_code (1 : Nat) none).before args0 about1 = true := code_word (m := ⟨20, 0⟩) (meth := k20m0) (c := k20c0) (by decide +kernel) rfl rfl rfl (by decide +kernel)
theorem w_c10 : (Jvm.Cond.code Y33 jdk_71_method_1_code (1 : Nat) none).before args0 about1 = true := code_word (m := ⟨19, 0⟩) (meth := k19m0) (c := k19c0) (by decide +kernel) rfl rfl rfl (by decide +kernel)
theorem w_c11 : (Jvm.Cond.code Y39 prog_28_method_3_code (3 : Nat) (Option.some (Jvm.ClassFile.FieldType.object "com/example/honest_errors/honesterrors/jsonschema/RegexAssembler$Fragment"))).before args0 about1 = true := code_word (m := ⟨8, 1⟩) (meth := k8m1) (c := k8c1) (by decide +kernel) rfl rfl rfl (by decide +kernel)
theorem w_c12 : (Jvm.Cond.code Y36 prog_28_method_32_code (8 : Nat) (some .int)).before args0 about1 = true := code_word (m := ⟨8, 7⟩) (meth := k8m7) (c := k8c7) (by decide +kernel) rfl rfl rfl (by decide +kernel)
theorem w_c13 : (Jvm.Cond.code Y40 prog_28_method_30_code (3 : Nat) (Option.some (Jvm.ClassFile.FieldType.object "com/example/honest_errors/honesterrors/jsonschema/RegexAssembler$Fragment"))).before args0 about1 = true := code_word (m := ⟨8, 6⟩) (meth := k8m6) (c := k8c6) (by decide +kernel) rfl rfl rfl (by decide +kernel)
theorem w_c14 : (Jvm.Cond.code Y37 prog_29_method_1_code (1 : Nat) none).before args0 about1 = true := code_word (m := ⟨21, 0⟩) (meth := k21m0) (c := k21c0) (by decide +kernel) rfl rfl rfl (by decide +kernel)
theorem w_c15 : (Jvm.Cond.code Y38 prog_28_method_36_code (3 : Nat) none).before args0 about1 = true := code_word (m := ⟨8, 10⟩) (meth := k8m10) (c := k8c10) (by decide +kernel) rfl rfl rfl (by decide +kernel)
theorem w_c16 : (Jvm.Cond.code Y53 prog_28_method_23_code (11 : Nat) (Option.some (Jvm.ClassFile.FieldType.object "com/example/honest_errors/honesterrors/jsonschema/RegexProgram"))).before args0 about1 = true := code_word (m := ⟨8, 3⟩) (meth := k8m3) (c := k8c3) (by decide +kernel) rfl rfl rfl (by decide +kernel)
theorem w_c17 : (Jvm.Cond.code Y44 prog_28_method_29_code (3 : Nat) (some .int)).before args0 about1 = true := code_word (m := ⟨8, 5⟩) (meth := k8m5) (c := k8c5) (by decide +kernel) rfl rfl rfl (by decide +kernel)
theorem w_c18 : (Jvm.Cond.code Y43 prog_28_method_38_code (5 : Nat) none).before args0 about1 = true := code_word (m := ⟨8, 11⟩) (meth := k8m11) (c := k8c11) (by decide +kernel) rfl rfl rfl (by decide +kernel)
theorem w_c19 : (Jvm.Cond.code Y45 prog_28_method_34_code (5 : Nat) (some .int)).before args0 about1 = true := code_word (m := ⟨8, 9⟩) (meth := k8m9) (c := k8c9) (by decide +kernel) rfl rfl rfl (by decide +kernel)
theorem w_c20 : (Jvm.Cond.code Y46 prog_28_method_33_code (1 : Nat) (some .boolean)).before args0 about1 = true := code_word (m := ⟨8, 8⟩) (meth := k8m8) (c := k8c8) (by decide +kernel) rfl rfl rfl (by decide +kernel)
theorem w_c21 : (Jvm.Cond.code Y47 jdk_38_method_9_code (1 : Nat) (some .boolean)).before args0 about1 = true := code_word (m := ⟨17, 1⟩) (meth := k17m1) (c := k17c1) (by decide +kernel) rfl rfl rfl (by decide +kernel)
theorem w_c22 : (Jvm.Cond.code Y49 jdk_65_method_123_code (3 : Nat) (Option.some (Jvm.ClassFile.FieldType.array Jvm.ClassFile.FieldType.int))).before args0 about1 = true := code_word (m := ⟨22, 4⟩) (meth := k22m4) (c := k22c4) (by decide +kernel) rfl rfl rfl (by decide +kernel)
theorem w_c23 : (Jvm.Cond.code Y48 jdk_29_method_69_code (2 : Nat) (some .int)).before args0 about1 = true := code_word (m := ⟨23, 1⟩) (meth := k23m1) (c := k23c1) (by decide +kernel) rfl rfl rfl (by decide +kernel)
theorem w_c24 : (Jvm.Cond.code Y50 jdk_65_method_121_code (3 : Nat) (Option.some (Jvm.ClassFile.FieldType.array Jvm.ClassFile.FieldType.byte))).before args0 about1 = true := code_word (m := ⟨22, 3⟩) (meth := k22m3) (c := k22c3) (by decide +kernel) rfl rfl rfl (by decide +kernel)
theorem w_c25 : (Jvm.Cond.code Y51 jdk_38_method_17_code (2 : Nat) (Option.some (Jvm.ClassFile.FieldType.array (Jvm.ClassFile.FieldType.object "java/lang/Object")))).before args0 about1 = true := code_word (m := ⟨17, 2⟩) (meth := k17m2) (c := k17c2) (by decide +kernel) rfl rfl rfl (by decide +kernel)
theorem w_c26 : (Jvm.Cond.code Y52 prog_34_method_1_code (9 : Nat) none).before args0 about1 = true := code_word (m := ⟨25, 0⟩) (meth := k25m0) (c := k25c0) (by decide +kernel) rfl rfl rfl (by decide +kernel)
theorem w_c27 : (Jvm.Cond.code Y66 prog_34_method_2_code (2 : Nat) (some .boolean)).before args0 about1 = true := code_word (m := ⟨25, 1⟩) (meth := k25m1) (c := k25c1) (by decide +kernel) rfl rfl rfl (by decide +kernel)
theorem w_c28 : (Jvm.Cond.code Y65 prog_35_method_1_code (3 : Nat) none).before args0 about1 = true := code_word (m := ⟨27, 0⟩) (meth := k27m0) (c := k27c0) (by decide +kernel) rfl rfl rfl (by decide +kernel)
theorem w_c29 : (Jvm.Cond.code Y21 jdk_42_method_54_code (1 : Nat) (some .int)).before args0 about1 = true := code_word (m := ⟨7, 2⟩) (meth := k7m2) (c := k7c2) (by decide +kernel) rfl rfl rfl (by decide +kernel)
theorem w_c30 : (Jvm.Cond.code Y0 jdk_42_method_152_code (1 : Nat) (some .byte)).before args0 about1 = true := code_word (m := ⟨7, 6⟩) (meth := k7m6) (c := k7c6) (by decide +kernel) rfl rfl rfl (by decide +kernel)
theorem w_c31 : (Jvm.Cond.code Y64 jdk_65_method_104_code (5 : Nat) none).before args0 about1 = true := code_word (m := ⟨22, 2⟩) (meth := k22m2) (c := k22c2) (by decide +kernel) rfl rfl rfl (by decide +kernel)
theorem w_c32 : (Jvm.Cond.code Y63 jdk_65_method_30_code (3 : Nat) none).before args0 about1 = true := code_word (m := ⟨22, 1⟩) (meth := k22m1) (c := k22c1) (by decide +kernel) rfl rfl rfl (by decide +kernel)
theorem w_c33 : (Jvm.Cond.code Y58 prog_35_method_2_code (4 : Nat) (some .boolean)).before args0 about1 = true := code_word (m := ⟨27, 1⟩) (meth := k27m1) (c := k27c1) (by decide +kernel) rfl rfl rfl (by decide +kernel)
theorem w_c34 : (Jvm.Cond.code Y62 prog_35_method_3_code (7 : Nat) (some .int)).before args0 about1 = true := code_word (m := ⟨27, 2⟩) (meth := k27m2) (c := k27c2) (by decide +kernel) rfl rfl rfl (by decide +kernel)
theorem w_c35 : (Jvm.Cond.code Y60 prog_35_method_4_code (4 : Nat) (some .int)).before args0 about1 = true := code_word (m := ⟨27, 3⟩) (meth := k27m3) (c := k27c3) (by decide +kernel) rfl rfl rfl (by decide +kernel)
theorem w_c36 : (Jvm.Cond.code Y59 prog_35_method_12_code (3 : Nat) (some .boolean)).before args0 about1 = true := code_word (m := ⟨27, 6⟩) (meth := k27m6) (c := k27c6) (by decide +kernel) rfl rfl rfl (by decide +kernel)
theorem w_c37 : (Jvm.Cond.code Y54 prog_35_method_13_code (6 : Nat) (some .int)).before args0 about1 = true := code_word (m := ⟨27, 7⟩) (meth := k27m7) (c := k27c7) (by decide +kernel) rfl rfl rfl (by decide +kernel)
theorem w_c38 : (Jvm.Cond.code Y55 prog_35_method_5_code (6 : Nat) (some .int)).before args0 about1 = true := code_word (m := ⟨27, 4⟩) (meth := k27m4) (c := k27c4) (by decide +kernel) rfl rfl rfl (by decide +kernel)
theorem w_c39 : (Jvm.Cond.code Y56 prog_35_method_11_code (3 : Nat) none).before args0 about1 = true := code_word (m := ⟨27, 5⟩) (meth := k27m5) (c := k27c5) (by decide +kernel) rfl rfl rfl (by decide +kernel)
theorem w_c40 : (Jvm.Cond.code Y67 method_6_code (9 : Nat) (some .boolean)).before args0 about1 = true := code_word (m := ⟨1, 5⟩) (meth := k1m5) (c := k1c5) (by decide +kernel) rfl rfl rfl (by decide +kernel)
theorem w_c41 : (Jvm.Cond.code Y13 jdk_52_method_16_code (6 : Nat) (Option.some (Jvm.ClassFile.FieldType.array Jvm.ClassFile.FieldType.byte))).before args0 about1 = true := code_word (m := ⟨28, 10⟩) (meth := k28m10) (c := k28c10) (by decide +kernel) rfl rfl rfl (by decide +kernel)
theorem w_c42 : (Jvm.Cond.code Y12 jdk_52_method_21_code (7 : Nat) (some .int)).before args0 about1 = true := code_word (m := ⟨28, 11⟩) (meth := k28m11) (c := k28c11) (by decide +kernel) rfl rfl rfl (by decide +kernel)
theorem w_c43 : (Jvm.Cond.code Y10 jdk_52_method_14_code (5 : Nat) (Option.some (Jvm.ClassFile.FieldType.array Jvm.ClassFile.FieldType.byte))).before args0 about1 = true := code_word (m := ⟨28, 8⟩) (meth := k28m8) (c := k28c8) (by decide +kernel) rfl rfl rfl (by decide +kernel)
theorem w_c44 : (Jvm.Cond.code Y8 jdk_52_method_2_code (1 : Nat) (Option.some (Jvm.ClassFile.FieldType.array Jvm.ClassFile.FieldType.byte))).before args0 about1 = true := code_word (m := ⟨28, 1⟩) (meth := k28m1) (c := k28c1) (by decide +kernel) rfl rfl rfl (by decide +kernel)
theorem w_c45 : (Jvm.Cond.code Y7 jdk_52_method_3_code (1 : Nat) (some .int)).before args0 about1 = true := code_word (m := ⟨28, 2⟩) (meth := k28m2) (c := k28c2) (by decide +kernel) rfl rfl rfl (by decide +kernel)
theorem w_c46 : (Jvm.Cond.code Y9 jdk_52_method_4_code (3 : Nat) none).before args0 about1 = true := code_word (m := ⟨28, 3⟩) (meth := k28m3) (c := k28c3) (by decide +kernel) rfl rfl rfl (by decide +kernel)
theorem w_c47 : (Jvm.Cond.code Y6 jdk_52_method_5_code (2 : Nat) (some .char)).before args0 about1 = true := code_word (m := ⟨28, 4⟩) (meth := k28m4) (c := k28c4) (by decide +kernel) rfl rfl rfl (by decide +kernel)
theorem w_c48 : (Jvm.Cond.code Y11 jdk_52_method_15_code (2 : Nat) (some .byte)).before args0 about1 = true := code_word (m := ⟨28, 9⟩) (meth := k28m9) (c := k28c9) (by decide +kernel) rfl rfl rfl (by decide +kernel)
theorem w_c49 : (Jvm.Cond.code Y24 jdk_42_method_57_code (3 : Nat) (some .int)).before args0 about1 = true := code_word (m := ⟨7, 4⟩) (meth := k7m4) (c := k7c4) (by decide +kernel) rfl rfl rfl (by decide +kernel)
theorem w_c50 : (Jvm.Cond.code Y1 jdk_42_method_154_code (1 : Nat) (some .boolean)).before args0 about1 = true := code_word (m := ⟨7, 7⟩) (meth := k7m7) (c := k7c7) (by decide +kernel) rfl rfl rfl (by decide +kernel)
theorem w_c51 : (Jvm.Cond.code Y17 jdk_42_method_155_code (2 : Nat) none).before args0 about1 = true := code_word (m := ⟨7, 8⟩) (meth := k7m8) (c := k7c8) (by decide +kernel) rfl rfl rfl (by decide +kernel)
theorem w_c52 : (Jvm.Cond.code Y16 jdk_41_method_11_code (3 : Nat) (some .int)).before args0 about1 = true := code_word (m := ⟨29, 1⟩) (meth := k29m1) (c := k29c1) (by decide +kernel) rfl rfl rfl (by decide +kernel)
theorem w_c53 : (Jvm.Cond.code Y29 jdk_52_method_8_code (3 : Nat) (some .int)).before args0 about1 = true := code_word (m := ⟨28, 7⟩) (meth := k28m7) (c := k28c7) (by decide +kernel) rfl rfl rfl (by decide +kernel)
theorem w_c54 : (Jvm.Cond.code Y28 jdk_52_method_7_code (6 : Nat) (some .int)).before args0 about1 = true := code_word (m := ⟨28, 6⟩) (meth := k28m6) (c := k28c6) (by decide +kernel) rfl rfl rfl (by decide +kernel)
theorem w_c55 : (Jvm.Cond.code Y2 jdk_89_method_14_code (1 : Nat) (some .boolean)).before args0 about1 = true := code_word (m := ⟨30, 0⟩) (meth := k30m0) (c := k30c0) (by decide +kernel) rfl rfl rfl (by decide +kernel)
theorem w_c56 : (Jvm.Cond.code Y3 jdk_89_method_15_code (1 : Nat) (some .boolean)).before args0 about1 = true := code_word (m := ⟨30, 1⟩) (meth := k30m1) (c := k30c1) (by decide +kernel) rfl rfl rfl (by decide +kernel)
theorem w_c57 : (Jvm.Cond.code Y18 jdk_89_method_16_code (1 : Nat) (some .boolean)).before args0 about1 = true := code_word (m := ⟨30, 2⟩) (meth := k30m2) (c := k30c2) (by decide +kernel) rfl rfl rfl (by decide +kernel)
theorem w_c58 : (Jvm.Cond.code Y23 jdk_42_method_56_code (2 : Nat) (some .char)).before args0 about1 = true := code_word (m := ⟨7, 3⟩) (meth := k7m3) (c := k7c3) (by decide +kernel) rfl rfl rfl (by decide +kernel)
theorem w_c59 : (Jvm.Cond.code Y27 jdk_52_method_83_code (2 : Nat) (some .char)).before args0 about1 = true := code_word (m := ⟨28, 12⟩) (meth := k28m12) (c := k28c12) (by decide +kernel) rfl rfl rfl (by decide +kernel)
theorem w_c60 : (Jvm.Cond.code Y26 jdk_52_method_91_code (2 : Nat) none).before args0 about1 = true := code_word (m := ⟨28, 13⟩) (meth := k28m13) (c := k28c13) (by decide +kernel) rfl rfl rfl (by decide +kernel)
theorem w_c61 : (Jvm.Cond.code Y25 jdk_52_method_6_code (1 : Nat) (some .int)).before args0 about1 = true := code_word (m := ⟨28, 5⟩) (meth := k28m5) (c := k28c5) (by decide +kernel) rfl rfl rfl (by decide +kernel)
theorem w_c62 : (Jvm.Cond.code Y4 method_4_code (1 : Nat) (some .boolean)).before args0 about1 = true := code_word (m := ⟨1, 3⟩) (meth := k1m3) (c := k1c3) (by decide +kernel) rfl rfl rfl (by decide +kernel)
theorem w_c63 : (Jvm.Cond.code Y5 method_5_code (1 : Nat) (some .boolean)).before args0 about1 = true := code_word (m := ⟨1, 4⟩) (meth := k1m4) (c := k1c4) (by decide +kernel) rfl rfl rfl (by decide +kernel)
theorem w_c64 : (Jvm.Cond.code Y42 prog_28_method_19_code (7 : Nat) (Option.some (Jvm.ClassFile.FieldType.object "com/example/honest_errors/honesterrors/jsonschema/RegexAssembler$Fragment"))).before args0 about1 = true := code_word (m := ⟨8, 2⟩) (meth := k8m2) (c := k8c2) (by decide +kernel) rfl rfl rfl (by decide +kernel)
theorem w_c65 : (Jvm.Cond.code Y41 prog_28_method_24_code (7 : Nat) (Option.some (Jvm.ClassFile.FieldType.object "com/example/honest_errors/honesterrors/jsonschema/RegexAssembler$Fragment"))).before args0 about1 = true := code_word (m := ⟨8, 4⟩) (meth := k8m4) (c := k8c4) (by decide +kernel) rfl rfl rfl (by decide +kernel)
theorem w_c66 : (Jvm.Cond.code Y61 prog_35_method_16_code (9 : Nat) (some .boolean)).before args0 about1 = true := code_word (m := ⟨27, 8⟩) (meth := k27m8) (c := k27c8) (by decide +kernel) rfl rfl rfl (by decide +kernel)
theorem w_c67 : (Jvm.Cond.code Y22 jdk_43_method_2_code (2 : Nat) (some .char)).before args0 about1 = true := code_word (m := ⟨31, 1⟩) (meth := k31m1) (c := k31c1) (by decide +kernel) rfl rfl rfl (by decide +kernel)
theorem w_c68 : (Jvm.Cond.code Y57 prog_35_method_19_code (6 : Nat) (some .int)).before args0 about1 = true := code_word (m := ⟨27, 9⟩) (meth := k27m9) (c := k27c9) (by decide +kernel) rfl rfl rfl (by decide +kernel)
theorem w_c69 : (Jvm.Cond.code Y20 jdk_89_method_19_code (2 : Nat) (some .int)).before args0 about1 = true := code_word (m := ⟨30, 4⟩) (meth := k30m4) (c := k30c4) (by decide +kernel) rfl rfl rfl (by decide +kernel)
theorem w_c70 : (Jvm.Cond.code Y19 jdk_89_method_18_code (1 : Nat) (some .int)).before args0 about1 = true := code_word (m := ⟨30, 3⟩) (meth := k30m3) (c := k30c3) (by decide +kernel) rfl rfl rfl (by decide +kernel)
def codes1 : List Jvm.Cond := [Jvm.Cond.code x code maxLocals ret, Jvm.Cond.code Y68 method_3_code (5 : Nat) (some .char), Jvm.Cond.code Y15 jdk_42_method_3_code (2 : Nat) none, Jvm.Cond.code Y14 jdk_42_method_149_code (6 : Nat) none, Jvm.Cond.code ({ cls := "java/lang/Object", name := "<init>", desc := "()V" } : Jvm.MethodName) object_method_1_code (1 : Nat) none, Jvm.Cond.code Y35 prog_28_method_1_code (1 : Nat) none, Jvm.Cond.code Y32 jdk_38_method_2_code (1 : Nat) none, Jvm.Cond.code Y31 jdk_39_method_1_code (1 : Nat) none, Jvm.Cond.code Y30 jdk_22_method_1_code (1 : Nat) none, Jvm.Cond.code Y34 jdk_69_method_7_code (1 : Nat) none, Jvm.Cond.code Y33 jdk_71_method_1_code (1 : Nat) none, Jvm.Cond.code Y39 prog_28_method_3_code (3 : Nat) (Option.some (Jvm.ClassFile.FieldType.object "com/example/honest_errors/honesterrors/jsonschema/RegexAssembler$Fragment")), Jvm.Cond.code Y36 prog_28_method_32_code (8 : Nat) (some .int), Jvm.Cond.code Y40 prog_28_method_30_code (3 : Nat) (Option.some (Jvm.ClassFile.FieldType.object "com/example/honest_errors/honesterrors/jsonschema/RegexAssembler$Fragment")), Jvm.Cond.code Y37 prog_29_method_1_code (1 : Nat) none, Jvm.Cond.code Y38 prog_28_method_36_code (3 : Nat) none, Jvm.Cond.code Y53 prog_28_method_23_code (11 : Nat) (Option.some (Jvm.ClassFile.FieldType.object "com/example/honest_errors/honesterrors/jsonschema/RegexProgram")), Jvm.Cond.code Y44 prog_28_method_29_code (3 : Nat) (some .int), Jvm.Cond.code Y43 prog_28_method_38_code (5 : Nat) none, Jvm.Cond.code Y45 prog_28_method_34_code (5 : Nat) (some .int), Jvm.Cond.code Y46 prog_28_method_33_code (1 : Nat) (some .boolean), Jvm.Cond.code Y47 jdk_38_method_9_code (1 : Nat) (some .boolean), Jvm.Cond.code Y49 jdk_65_method_123_code (3 : Nat) (Option.some (Jvm.ClassFile.FieldType.array Jvm.ClassFile.FieldType.int)), Jvm.Cond.code Y48 jdk_29_method_69_code (2 : Nat) (some .int), Jvm.Cond.code Y50 jdk_65_method_121_code (3 : Nat) (Option.some (Jvm.ClassFile.FieldType.array Jvm.ClassFile.FieldType.byte)), Jvm.Cond.code Y51 jdk_38_method_17_code (2 : Nat) (Option.some (Jvm.ClassFile.FieldType.array (Jvm.ClassFile.FieldType.object "java/lang/Object"))), Jvm.Cond.code Y52 prog_34_method_1_code (9 : Nat) none, Jvm.Cond.code Y66 prog_34_method_2_code (2 : Nat) (some .boolean), Jvm.Cond.code Y65 prog_35_method_1_code (3 : Nat) none, Jvm.Cond.code Y21 jdk_42_method_54_code (1 : Nat) (some .int), Jvm.Cond.code Y0 jdk_42_method_152_code (1 : Nat) (some .byte), Jvm.Cond.code Y64 jdk_65_method_104_code (5 : Nat) none, Jvm.Cond.code Y63 jdk_65_method_30_code (3 : Nat) none, Jvm.Cond.code Y58 prog_35_method_2_code (4 : Nat) (some .boolean), Jvm.Cond.code Y62 prog_35_method_3_code (7 : Nat) (some .int), Jvm.Cond.code Y60 prog_35_method_4_code (4 : Nat) (some .int), Jvm.Cond.code Y59 prog_35_method_12_code (3 : Nat) (some .boolean), Jvm.Cond.code Y54 prog_35_method_13_code (6 : Nat) (some .int), Jvm.Cond.code Y55 prog_35_method_5_code (6 : Nat) (some .int), Jvm.Cond.code Y56 prog_35_method_11_code (3 : Nat) none, Jvm.Cond.code Y67 method_6_code (9 : Nat) (some .boolean), Jvm.Cond.code Y13 jdk_52_method_16_code (6 : Nat) (Option.some (Jvm.ClassFile.FieldType.array Jvm.ClassFile.FieldType.byte)), Jvm.Cond.code Y12 jdk_52_method_21_code (7 : Nat) (some .int), Jvm.Cond.code Y10 jdk_52_method_14_code (5 : Nat) (Option.some (Jvm.ClassFile.FieldType.array Jvm.ClassFile.FieldType.byte)), Jvm.Cond.code Y8 jdk_52_method_2_code (1 : Nat) (Option.some (Jvm.ClassFile.FieldType.array Jvm.ClassFile.FieldType.byte)), Jvm.Cond.code Y7 jdk_52_method_3_code (1 : Nat) (some .int), Jvm.Cond.code Y9 jdk_52_method_4_code (3 : Nat) none, Jvm.Cond.code Y6 jdk_52_method_5_code (2 : Nat) (some .char), Jvm.Cond.code Y11 jdk_52_method_15_code (2 : Nat) (some .byte), Jvm.Cond.code Y24 jdk_42_method_57_code (3 : Nat) (some .int), Jvm.Cond.code Y1 jdk_42_method_154_code (1 : Nat) (some .boolean), Jvm.Cond.code Y17 jdk_42_method_155_code (2 : Nat) none, Jvm.Cond.code Y16 jdk_41_method_11_code (3 : Nat) (some .int), Jvm.Cond.code Y29 jdk_52_method_8_code (3 : Nat) (some .int), Jvm.Cond.code Y28 jdk_52_method_7_code (6 : Nat) (some .int), Jvm.Cond.code Y2 jdk_89_method_14_code (1 : Nat) (some .boolean), Jvm.Cond.code Y3 jdk_89_method_15_code (1 : Nat) (some .boolean), Jvm.Cond.code Y18 jdk_89_method_16_code (1 : Nat) (some .boolean), Jvm.Cond.code Y23 jdk_42_method_56_code (2 : Nat) (some .char), Jvm.Cond.code Y27 jdk_52_method_83_code (2 : Nat) (some .char), Jvm.Cond.code Y26 jdk_52_method_91_code (2 : Nat) none, Jvm.Cond.code Y25 jdk_52_method_6_code (1 : Nat) (some .int), Jvm.Cond.code Y4 method_4_code (1 : Nat) (some .boolean), Jvm.Cond.code Y5 method_5_code (1 : Nat) (some .boolean), Jvm.Cond.code Y42 prog_28_method_19_code (7 : Nat) (Option.some (Jvm.ClassFile.FieldType.object "com/example/honest_errors/honesterrors/jsonschema/RegexAssembler$Fragment")), Jvm.Cond.code Y41 prog_28_method_24_code (7 : Nat) (Option.some (Jvm.ClassFile.FieldType.object "com/example/honest_errors/honesterrors/jsonschema/RegexAssembler$Fragment")), Jvm.Cond.code Y61 prog_35_method_16_code (9 : Nat) (some .boolean), Jvm.Cond.code Y22 jdk_43_method_2_code (2 : Nat) (some .char), Jvm.Cond.code Y57 prog_35_method_19_code (6 : Nat) (some .int), Jvm.Cond.code Y20 jdk_89_method_19_code (2 : Nat) (some .int), Jvm.Cond.code Y19 jdk_89_method_18_code (1 : Nat) (some .int)]
theorem codes_eq : words1.filter isCode = codes1 := rfl
theorem w_codes : ∀ c ∈ words1.filter isCode, c.before args0 about1 = true := by
  rw [codes_eq]
  intro c hc
  simp only [codes1, List.mem_cons, List.not_mem_nil, or_false] at hc
  rcases hc with rfl | rfl | rfl | rfl | rfl | rfl | rfl | rfl | rfl | rfl | rfl | rfl | rfl | rfl | rfl | rfl | rfl | rfl | rfl | rfl | rfl | rfl | rfl | rfl | rfl | rfl | rfl | rfl | rfl | rfl | rfl | rfl | rfl | rfl | rfl | rfl | rfl | rfl | rfl | rfl | rfl | rfl | rfl | rfl | rfl | rfl | rfl | rfl | rfl | rfl | rfl | rfl | rfl | rfl | rfl | rfl | rfl | rfl | rfl | rfl | rfl | rfl | rfl | rfl | rfl | rfl | rfl | rfl | rfl | rfl | rfl
  · exact w_c0
  · exact w_c1
  · exact w_c2
  · exact w_c3
  · exact w_c4
  · exact w_c5
  · exact w_c6
  · exact w_c7
  · exact w_c8
  · exact w_c9
  · exact w_c10
  · exact w_c11
  · exact w_c12
  · exact w_c13
  · exact w_c14
  · exact w_c15
  · exact w_c16
  · exact w_c17
  · exact w_c18
  · exact w_c19
  · exact w_c20
  · exact w_c21
  · exact w_c22
  · exact w_c23
  · exact w_c24
  · exact w_c25
  · exact w_c26
  · exact w_c27
  · exact w_c28
  · exact w_c29
  · exact w_c30
  · exact w_c31
  · exact w_c32
  · exact w_c33
  · exact w_c34
  · exact w_c35
  · exact w_c36
  · exact w_c37
  · exact w_c38
  · exact w_c39
  · exact w_c40
  · exact w_c41
  · exact w_c42
  · exact w_c43
  · exact w_c44
  · exact w_c45
  · exact w_c46
  · exact w_c47
  · exact w_c48
  · exact w_c49
  · exact w_c50
  · exact w_c51
  · exact w_c52
  · exact w_c53
  · exact w_c54
  · exact w_c55
  · exact w_c56
  · exact w_c57
  · exact w_c58
  · exact w_c59
  · exact w_c60
  · exact w_c61
  · exact w_c62
  · exact w_c63
  · exact w_c64
  · exact w_c65
  · exact w_c66
  · exact w_c67
  · exact w_c68
  · exact w_c69
  · exact w_c70
theorem w_t1 : (words1.take 24).all (fun c => isCode c || c.before args0 about1) = true := by decide +kernel
theorem w_t2 : ((words1.drop 24).take 24).all (fun c => isCode c || c.before args0 about1) = true := by decide +kernel
theorem w_t3 : (((words1.drop 24).drop 24).take 24).all (fun c => isCode c || c.before args0 about1) = true := by decide +kernel
theorem w_t4 : ((((words1.drop 24).drop 24).drop 24).take 24).all (fun c => isCode c || c.before args0 about1) = true := by decide +kernel
theorem w_t5 : (((((words1.drop 24).drop 24).drop 24).drop 24).take 24).all (fun c => isCode c || c.before args0 about1) = true := by decide +kernel
theorem w_t6 : ((((((words1.drop 24).drop 24).drop 24).drop 24).drop 24).take 24).all (fun c => isCode c || c.before args0 about1) = true := by decide +kernel
theorem w_t7 : (((((((words1.drop 24).drop 24).drop 24).drop 24).drop 24).drop 24).take 24).all (fun c => isCode c || c.before args0 about1) = true := by decide +kernel
theorem w_t8 : ((((((((words1.drop 24).drop 24).drop 24).drop 24).drop 24).drop 24).drop 24).take 24).all (fun c => isCode c || c.before args0 about1) = true := by decide +kernel
theorem w_t9 : (((((((((words1.drop 24).drop 24).drop 24).drop 24).drop 24).drop 24).drop 24).drop 24).take 24).all (fun c => isCode c || c.before args0 about1) = true := by decide +kernel
theorem w_t10 : ((((((((((words1.drop 24).drop 24).drop 24).drop 24).drop 24).drop 24).drop 24).drop 24).drop 24).take 24).all (fun c => isCode c || c.before args0 about1) = true := by decide +kernel
theorem w_t11 : (((((((((((words1.drop 24).drop 24).drop 24).drop 24).drop 24).drop 24).drop 24).drop 24).drop 24).drop 24).take 24).all (fun c => isCode c || c.before args0 about1) = true := by decide +kernel
theorem w_t12 : ((((((((((((words1.drop 24).drop 24).drop 24).drop 24).drop 24).drop 24).drop 24).drop 24).drop 24).drop 24).drop 24).take 24).all (fun c => isCode c || c.before args0 about1) = true := by decide +kernel
theorem w_t13 : (((((((((((((words1.drop 24).drop 24).drop 24).drop 24).drop 24).drop 24).drop 24).drop 24).drop 24).drop 24).drop 24).drop 24).take 24).all (fun c => isCode c || c.before args0 about1) = true := by decide +kernel
theorem w_t14 : ((((((((((((((words1.drop 24).drop 24).drop 24).drop 24).drop 24).drop 24).drop 24).drop 24).drop 24).drop 24).drop 24).drop 24).drop 24).take 24).all (fun c => isCode c || c.before args0 about1) = true := by decide +kernel
theorem w_t15 : (((((((((((((((words1.drop 24).drop 24).drop 24).drop 24).drop 24).drop 24).drop 24).drop 24).drop 24).drop 24).drop 24).drop 24).drop 24).drop 24).take 24).all (fun c => isCode c || c.before args0 about1) = true := by decide +kernel
theorem w_t16 : ((((((((((((((((words1.drop 24).drop 24).drop 24).drop 24).drop 24).drop 24).drop 24).drop 24).drop 24).drop 24).drop 24).drop 24).drop 24).drop 24).drop 24).take 24).all (fun c => isCode c || c.before args0 about1) = true := by decide +kernel
theorem w_t17 : (((((((((((((((((words1.drop 24).drop 24).drop 24).drop 24).drop 24).drop 24).drop 24).drop 24).drop 24).drop 24).drop 24).drop 24).drop 24).drop 24).drop 24).drop 24).take 24).all (fun c => isCode c || c.before args0 about1) = true := by decide +kernel
theorem w_t18 : ((((((((((((((((((words1.drop 24).drop 24).drop 24).drop 24).drop 24).drop 24).drop 24).drop 24).drop 24).drop 24).drop 24).drop 24).drop 24).drop 24).drop 24).drop 24).drop 24).take 24).all (fun c => isCode c || c.before args0 about1) = true := by decide +kernel
theorem w_t19 : ((((((((((((((((((words1.drop 24).drop 24).drop 24).drop 24).drop 24).drop 24).drop 24).drop 24).drop 24).drop 24).drop 24).drop 24).drop 24).drop 24).drop 24).drop 24).drop 24).drop 24).all (fun c => isCode c || c.before args0 about1) = true := by decide +kernel
theorem w_tables : (allAtoms (Jvm.Cond.code x code maxLocals ret :: tables_1)).before args0 about1 = true := by
  rw [allAtoms_all]
  show words1.all (fun c => c.before args0 about1) = true
  refine all_split ?_ w_codes
  rw [← List.take_append_drop 24 words1, List.all_append, w_t1, ← List.take_append_drop 24 (words1.drop 24), List.all_append, w_t2, ← List.take_append_drop 24 ((words1.drop 24).drop 24), List.all_append, w_t3, ← List.take_append_drop 24 (((words1.drop 24).drop 24).drop 24), List.all_append, w_t4, ← List.take_append_drop 24 ((((words1.drop 24).drop 24).drop 24).drop 24), List.all_append, w_t5, ← List.take_append_drop 24 (((((words1.drop 24).drop 24).drop 24).drop 24).drop 24), List.all_append, w_t6, ← List.take_append_drop 24 ((((((words1.drop 24).drop 24).drop 24).drop 24).drop 24).drop 24), List.all_append, w_t7, ← List.take_append_drop 24 (((((((words1.drop 24).drop 24).drop 24).drop 24).drop 24).drop 24).drop 24), List.all_append, w_t8, ← List.take_append_drop 24 ((((((((words1.drop 24).drop 24).drop 24).drop 24).drop 24).drop 24).drop 24).drop 24), List.all_append, w_t9, ← List.take_append_drop 24 (((((((((words1.drop 24).drop 24).drop 24).drop 24).drop 24).drop 24).drop 24).drop 24).drop 24), List.all_append, w_t10, ← List.take_append_drop 24 ((((((((((words1.drop 24).drop 24).drop 24).drop 24).drop 24).drop 24).drop 24).drop 24).drop 24).drop 24), List.all_append, w_t11, ← List.take_append_drop 24 (((((((((((words1.drop 24).drop 24).drop 24).drop 24).drop 24).drop 24).drop 24).drop 24).drop 24).drop 24).drop 24), List.all_append, w_t12, ← List.take_append_drop 24 ((((((((((((words1.drop 24).drop 24).drop 24).drop 24).drop 24).drop 24).drop 24).drop 24).drop 24).drop 24).drop 24).drop 24), List.all_append, w_t13, ← List.take_append_drop 24 (((((((((((((words1.drop 24).drop 24).drop 24).drop 24).drop 24).drop 24).drop 24).drop 24).drop 24).drop 24).drop 24).drop 24).drop 24), List.all_append, w_t14, ← List.take_append_drop 24 ((((((((((((((words1.drop 24).drop 24).drop 24).drop 24).drop 24).drop 24).drop 24).drop 24).drop 24).drop 24).drop 24).drop 24).drop 24).drop 24), List.all_append, w_t15, ← List.take_append_drop 24 (((((((((((((((words1.drop 24).drop 24).drop 24).drop 24).drop 24).drop 24).drop 24).drop 24).drop 24).drop 24).drop 24).drop 24).drop 24).drop 24).drop 24), List.all_append, w_t16, ← List.take_append_drop 24 ((((((((((((((((words1.drop 24).drop 24).drop 24).drop 24).drop 24).drop 24).drop 24).drop 24).drop 24).drop 24).drop 24).drop 24).drop 24).drop 24).drop 24).drop 24), List.all_append, w_t17, ← List.take_append_drop 24 (((((((((((((((((words1.drop 24).drop 24).drop 24).drop 24).drop 24).drop 24).drop 24).drop 24).drop 24).drop 24).drop 24).drop 24).drop 24).drop 24).drop 24).drop 24).drop 24), List.all_append, w_t18, w_t19]
  rfl
theorem w_rest : rest_1_c.before args0 about1 = true := by decide +kernel
theorem w_case : (Jvm.Cond.and given_1 narrow_1).before args0 about1 = true := by decide +kernel
theorem w_consts : constsHeld consts_1 about1 := Jvm.Lit.constsHeldB_iff.mp (by decide +kernel)
theorem w_applies : (headSpec (Jvm.Cond.code x code maxLocals ret :: tables_1) room_1).applies x e0.platform about1 = true :=
  (Spec.applies_iff w_frames).mpr ⟨w_running, w_runnable, w_alone, w_named, w_hears, w_ripe, w_room, w_tables⟩
theorem atStart : AtStart classFile x code maxLocals ret World_1 tables_1 room_1 Calls_1 rest_1 Pre_1 launch0 p0 e0 about1 theMethod args0 below0 :=
  ⟨lists_1, trivial, launch0.admits_env _ _ _, launch0.least_env, fairChoices_fair.cas, fairChoices_fair.clock, w_frames, w_args, w_heap, w_applies, ⟨w_consts, trivial⟩, w_rest, w_case⟩
end start1
theorem witness_1 : WitnessClaimed_1 := ⟨start1.p0, start1.e0, start1.about1, start1.theMethod, start1.args0, start1.below0, start1.atStart⟩
end Jvm.Pilot.@@N@@
