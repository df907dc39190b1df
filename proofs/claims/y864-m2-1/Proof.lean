import JvmDerived
import JvmDerived.Pilot.@@N@@Statement
import JvmDerived.Pilot.@@N@@Code
set_option linter.unusedVariables false
set_option linter.unusedSimpArgs false
namespace Jvm.OwnK
open Jvm Jvm.ClassFile Sem Op Lib Jvm.Free Jvm.Stand Jvm.RoadKit
/- lists by place -/
def nth {α : Type} : List α → Nat → Option α
  | [], _ => none
  | x :: _, 0 => some x
  | _ :: r, n + 1 => nth r n
def upd {α : Type} : List α → Nat → α → List α
  | [], _, _ => []
  | _ :: r, 0, y => y :: r
  | x :: r, n + 1, y => x :: upd r n y
theorem nth_mem {α : Type} : ∀ {L : List α} {i : Nat} {x : α}, nth L i = some x → x ∈ L
  | [], _, _, h => by cases h
  | y :: r, 0, x, h => by cases h; exact List.mem_cons_self
  | y :: r, n + 1, x, h => List.mem_cons_of_mem _ (nth_mem (L := r) h)
theorem nth_lt {α : Type} : ∀ {L : List α} {i : Nat} {x : α}, nth L i = some x → i < L.length
  | [], _, _, h => by cases h
  | y :: r, 0, x, h => Nat.succ_pos _
  | y :: r, n + 1, x, h => Nat.succ_lt_succ (nth_lt (L := r) h)
theorem nth_get {α : Type} : ∀ (L : List α) (i : Nat), nth L i = L[i]?
  | [], _ => rfl
  | y :: r, 0 => rfl
  | y :: r, n + 1 => by show nth r n = _; rw [nth_get r n]; rfl
theorem upd_len {α : Type} : ∀ (L : List α) (i : Nat) (y : α), (upd L i y).length = L.length
  | [], _, _ => rfl
  | _ :: _, 0, _ => rfl
  | _ :: r, n + 1, y => congrArg Nat.succ (upd_len r n y)
theorem upd_set {α : Type} : ∀ (L : List α) (i : Nat) (y : α), upd L i y = L.set i y
  | [], _, _ => rfl
  | _ :: _, 0, _ => rfl
  | x :: r, n + 1, y => congrArg (x :: ·) (upd_set r n y)
theorem upd_mem {α : Type} : ∀ {L : List α} {i : Nat} {y x : α}, x ∈ upd L i y → x = y ∨ x ∈ L
  | [], _, _, _, h => nomatch h
  | _ :: r, 0, y, x, h => (List.mem_cons.mp h).elim Or.inl fun q => Or.inr (List.mem_cons_of_mem _ q)
  | z :: r, n + 1, y, x, h => (List.mem_cons.mp h).elim (fun q => Or.inr (q ▸ List.mem_cons_self)) fun q => (upd_mem q).imp id (List.mem_cons_of_mem _)
theorem leD {a b : Nat} (h : Nat.ble a b = true) : a ≤ b := Nat.le_of_ble_eq_true h
/- places as ints -/
theorem ofn_toInt {k : Nat} (h : k < 2 ^ 31) : (Int32.ofNat k).toInt = k := Int32.toInt_ofNat_small h
theorem ofn_nn {k : Nat} (h : k < 2 ^ 31) : ¬ Int32.ofNat k < 0 := by rw [Int32.lt_iff_toInt_lt, ofn_toInt h]; show ¬ (k : Int) < 0; omega
theorem ofn_nat {k : Nat} (h : k < 2 ^ 31) : (Int32.ofNat k).toNatClampNeg = k := by simp only [Int32.toNatClampNeg, ofn_toInt h]; rfl
theorem ofn_lt {i n : Nat} (hi : i < 2 ^ 31) (hn : n < 2 ^ 31) : Int32.ofNat i < Int32.ofNat n ↔ i < n := by rw [Int32.lt_iff_toInt_lt, ofn_toInt hi, ofn_toInt hn]; omega
theorem ofn_inj {i n : Nat} (hi : i < 2 ^ 31) (hn : n < 2 ^ 31) : Int32.ofNat i = Int32.ofNat n ↔ i = n := by rw [← Int32.toInt_inj, ofn_toInt hi, ofn_toInt hn]; omega
theorem ofn_succ (k : Nat) : Int32.ofNat k + 1 = Int32.ofNat (k + 1) := by rw [Int32.ofNat_add]; rfl
theorem fa0 {α : Type} {P : α → Prop} : ∀ c ∈ ([] : List α), P c := fun _ h => nomatch h
theorem faS {α : Type} {P : α → Prop} {x : α} {L : List α} (h : P x) (r : ∀ c ∈ L, P c) : ∀ c ∈ x :: L, P c := fun c hc => (List.mem_cons.mp hc).elim (fun e => e ▸ h) (r c)
theorem byte255 (x : Int32) : ¬ (x &&& 255) < 0 ∧ ¬ 255 < (x &&& 255) := by
  obtain ⟨h1, h2⟩ := c_and x 255 (by decide)
  have e : (255 : Int32).toInt = 255 := rfl
  have e0 : (0 : Int32).toInt = 0 := rfl
  rw [Int32.lt_iff_toInt_lt, Int32.lt_iff_toInt_lt, e, e0]; omega
def lmin (a b : Int64) : Int64 := if b < a then b else a
def lmax (a b : Int64) : Int64 := if a < b then b else a
theorem cl_lt (x y : Int64) : XT.cmpL x y < 0 ↔ x < y := by
  show (if y < x then (1 : Int32) else if x = y then 0 else -1) < 0 ↔ _
  split
  · exact ⟨fun h => absurd h (by decide), fun h => by rw [Int64.lt_iff_toInt_lt] at *; omega⟩
  · split
    · rename_i h1 h2; subst h2; exact ⟨fun h => absurd h (by decide), fun h => absurd h h1⟩
    · rename_i h1 h2; refine ⟨fun _ => ?_, fun _ => by decide⟩
      rw [Int64.lt_iff_toInt_lt] at *; rw [← Int64.toInt_inj] at h2; omega
theorem cl_gt (x y : Int64) : 0 < XT.cmpL x y ↔ y < x := by
  show 0 < (if y < x then (1 : Int32) else if x = y then 0 else -1) ↔ _
  split
  · rename_i h; exact ⟨fun _ => h, fun _ => by decide⟩
  · split
    · rename_i h1 h2; exact ⟨fun h => absurd h (by decide), fun h => absurd h h1⟩
    · rename_i h1 h2; exact ⟨fun h => absurd h (by decide), fun h => absurd h h1⟩
theorem and3 (x : Int32) : x &&& 3 = 0 ∨ x &&& 3 = 1 ∨ x &&& 3 = 2 ∨ x &&& 3 = 3 := by
  obtain ⟨h1, h2⟩ := c_and x 3 (by decide)
  have e : (3 : Int32).toInt = 3 := rfl
  have q : (x &&& 3).toInt = (0 : Int32).toInt ∨ (x &&& 3).toInt = (1 : Int32).toInt ∨ (x &&& 3).toInt = (2 : Int32).toInt ∨ (x &&& 3).toInt = (3 : Int32).toInt := by
    show _ = 0 ∨ _ = 1 ∨ _ = 2 ∨ _ = 3
    omega
  exact q.imp Int32.toInt_inj.mp (·.imp Int32.toInt_inj.mp (·.imp Int32.toInt_inj.mp Int32.toInt_inj.mp))
def Lat (cs : List Int32) : Prop := (∀ c ∈ cs, ¬ c < 0 ∧ ¬ 255 < c) ∧ cs.length ≤ 4000
def chars (cs : List Int32) : List Value := cs.map Value.int
def encB (cs : List Int32) : List Value := cs.map fun c => Value.int c.toInt8.toInt32
theorem Lat.len {cs : List Int32} (h : Lat cs) : cs.length < 2 ^ 31 := Nat.lt_of_le_of_lt h.2 (by decide)
theorem nth_map {α β : Type} (f : α → β) : ∀ (L : List α) (i : Nat), nth (L.map f) i = (nth L i).map f
  | [], _ => rfl
  | _ :: _, 0 => rfl
  | _ :: r, n + 1 => nth_map f r n
theorem nth_some {α : Type} : ∀ {L : List α} {i : Nat}, i < L.length → ∃ x, nth L i = some x
  | [], _, h => absurd h (Nat.not_lt_zero _)
  | x :: _, 0, _ => ⟨x, rfl⟩
  | _ :: r, n + 1, h => nth_some (L := r) (Nat.lt_of_succ_lt_succ h)
/- the first k of them laid, the others still 0 -/
def part (cs : List Int32) (k : Nat) : List Value := encB (cs.take k) ++ List.replicate (cs.length - k) (.int 0)
theorem part_zero (cs : List Int32) : part cs 0 = List.replicate cs.length (.int 0) := by simp [part, encB]
theorem part_all (cs : List Int32) : part cs cs.length = encB cs := by simp [part]
theorem part_len (cs : List Int32) {k : Nat} (h : k ≤ cs.length) : (part cs k).length = cs.length := by simp [part, encB]; omega
theorem part_put {cs : List Int32} {k : Nat} {c : Int32} (h : nth cs k = some c) : upd (part cs k) k (.int c.toInt8.toInt32) = part cs (k + 1) := by
  have hk := nth_lt h
  have e : cs.length - k = (cs.length - (k + 1)) + 1 := by omega
  rw [nth_get] at h
  have e2 : cs.take (k + 1) = cs.take k ++ [c] := by rw [List.take_add_one, h]; rfl
  rw [upd_set, part, part, e, List.replicate_succ, e2]
  have hl : (encB (cs.take k)).length = k := by simp [encB]; omega
  rw [List.set_append_right _ _ (by omega), hl, Nat.sub_self, List.set_cons_zero]
  simp [encB]
theorem store7 {s0' s1' s2' s3' s4' s5' : Value} {o : Slot} {v : Int32} (h : One o) : storeLocals #[.val s0', .val s1', .val s2', .val s3', .val s4', .val s5', o] 6 (.int v) = some #[.val s0', .val s1', .val s2', .val s3', .val s4', .val s5', .val (.int v)] := by
  rcases h with rfl | ⟨w, rfl, hw⟩
  · rfl
  · cases w <;> first | rfl | (simp [Value.category] at hw)
/- the heap as a list of items -/
abbrev Item := Addr × (Cell → Prop)
abbrev HL := List Item
def adr (L : HL) : List Addr := L.map (·.1)
def Live (h : Heap) (x : Item) : Prop := ∃ c, h[x.1]? = some c ∧ x.2 c
def Good (B : Addr → Prop) (h : Heap) (L : HL) : Prop := (adr L).Nodup ∧ ∀ x ∈ L, B x.1 ∧ Live h x
theorem mem_adr {L : HL} {x : Item} (h : x ∈ L) : x.1 ∈ adr L := List.mem_map.mpr ⟨x, h, rfl⟩
theorem Live.lt {h : Heap} {x : Item} (q : Live h x) : x.1 < h.size := by obtain ⟨c, q, -⟩ := q; exact (Array.getElem?_eq_some_iff.mp q).1
theorem Good.lt {B : Addr → Prop} {h : Heap} {L : HL} (G : Good B h L) {a : Addr} (q : a ∈ adr L) : a < h.size := by
  obtain ⟨x, hx, rfl⟩ := List.mem_map.mp q
  exact (G.2 x hx).2.lt
theorem Good.at {B : Addr → Prop} {h : Heap} {L : HL} (G : Good B h L) {i : Nat} {a : Addr} {P : Cell → Prop} (q : nth L i = some (a, P)) : ∃ c, h[a]? = some c ∧ P c := (G.2 _ (nth_mem q)).2
theorem Good.base {B : Addr → Prop} {h : Heap} {L : HL} (G : Good B h L) {i : Nat} {x : Item} (q : nth L i = some x) : B x.1 := (G.2 _ (nth_mem q)).1
theorem Good.nil (B : Addr → Prop) (h : Heap) : Good B h [] := ⟨List.nodup_nil, fun _ q => nomatch q⟩
theorem Good.mono {B B' : Addr → Prop} {h : Heap} {L : HL} (G : Good B h L) (q : ∀ x ∈ L, B x.1 → B' x.1) : Good B' h L := ⟨G.1, fun x hx => ⟨q x hx (G.2 x hx).1, (G.2 x hx).2⟩⟩
theorem Good.move {B : Addr → Prop} {h h' : Heap} {L : HL} (G : Good B h L) (q : ∀ (x : Addr) (c : Cell), h[x]? = some c → h'[x]? = some c) : Good B h' L := ⟨G.1, fun x hx => by
  obtain ⟨b, c, h1, h2⟩ := G.2 x hx
  exact ⟨b, c, q _ _ h1, h2⟩⟩
theorem Good.ext {B : Addr → Prop} {h h' : Heap} {L : HL} (G : Good B h L) (E : Ext h h') : Good B h' L := G.move E.2
theorem Good.new {B : Addr → Prop} {h h' : Heap} {L : HL} {P : Cell → Prop} (G : Good B h L) (E : Ext h h') (q : Live h' (h.size, P)) (b : B h.size) : Good B h' (L ++ [(h.size, P)]) := by
  refine ⟨?_, fun x hx => ?_⟩
  · rw [adr, List.map_append]
    refine List.nodup_append.mpr ⟨G.1, List.nodup_cons.mpr ⟨List.not_mem_nil, List.nodup_nil⟩, fun a ha b hb => ?_⟩
    have := G.lt ha
    rw [List.map_cons, List.map_nil] at hb
    cases List.mem_singleton.mp hb
    exact Nat.ne_of_lt this
  · rcases List.mem_append.mp hx with hx | hx
    · exact (G.ext E).2 x hx
    · cases List.mem_singleton.mp hx; exact ⟨b, q⟩
theorem adr_upd : ∀ {L : HL} {i : Nat} {a : Addr} {P P' : Cell → Prop}, nth L i = some (a, P) → adr (upd L i (a, P')) = adr L
  | [], _, _, _, _, h => by cases h
  | y :: r, 0, a, P, P', h => by cases h; rfl
  | y :: r, n + 1, a, P, P', h => congrArg (y.1 :: ·) (adr_upd (L := r) h)
theorem upd_mem' : ∀ {L : HL} {i : Nat} {a : Addr} {P : Cell → Prop} {y x : Item}, nth L i = some (a, P) → (adr L).Nodup → x ∈ upd L i y → x = y ∨ (x ∈ L ∧ x.1 ≠ a)
  | [], _, _, _, _, _, h, _, _ => by cases h
  | z :: r, 0, a, P, y, x, h, hn, hx => by
    cases h
    rcases List.mem_cons.mp hx with q | q
    · exact Or.inl q
    · refine Or.inr ⟨List.mem_cons_of_mem _ q, fun e => ?_⟩
      refine (List.nodup_cons.mp hn).1 ?_
      have q2 := mem_adr q
      rw [e] at q2; exact q2
  | z :: r, n + 1, a, P, y, x, h, hn, hx => by
    rcases List.mem_cons.mp hx with q | q
    · subst q
      refine Or.inr ⟨List.mem_cons_self, fun e => ?_⟩
      have h' : nth r n = some (a, P) := h
      refine (List.nodup_cons.mp hn).1 ?_
      have q2 := mem_adr (nth_mem h')
      show x.1 ∈ _
      rw [e]; exact q2
    · exact (upd_mem' (L := r) h (List.nodup_cons.mp hn).2 q).imp id fun q => ⟨List.mem_cons_of_mem _ q.1, q.2⟩
theorem Good.set {B : Addr → Prop} {h h' : Heap} {L : HL} (G : Good B h L) {i : Nat} {a : Addr} {P P' : Cell → Prop} (hi : nth L i = some (a, P))
    (q : ∀ (x : Addr) (c : Cell), x ≠ a → h[x]? = some c → h'[x]? = some c) (r : Live h' (a, P')) : Good B h' (upd L i (a, P')) := by
  refine ⟨by rw [adr_upd hi]; exact G.1, fun x hx => ?_⟩
  rcases upd_mem' hi G.1 hx with rfl | ⟨hx, ne⟩
  · exact ⟨(G.base hi : B a), r⟩
  · obtain ⟨b, c, h1, h2⟩ := G.2 x hx
    exact ⟨b, c, q _ _ ne h1, h2⟩
def pick (L : HL) : List Nat → HL
  | [] => []
  | i :: r => match nth L i with
    | some x => x :: pick L r
    | none => pick L r
theorem pick_mem {L : HL} : ∀ {is : List Nat} {x : Item}, x ∈ pick L is → ∃ i ∈ is, nth L i = some x
  | [], _, h => nomatch h
  | i :: r, x, h => by
    unfold pick at h
    cases q : nth L i with
    | none => rw [q] at h; obtain ⟨j, hj, e⟩ := pick_mem h; exact ⟨j, List.mem_cons_of_mem _ hj, e⟩
    | some y =>
      rw [q] at h
      rcases List.mem_cons.mp h with rfl | h
      · exact ⟨i, List.mem_cons_self, q⟩
      · obtain ⟨j, hj, e⟩ := pick_mem h; exact ⟨j, List.mem_cons_of_mem _ hj, e⟩
theorem nth_inj : ∀ {L : HL} {i j : Nat} {x y : Item}, (adr L).Nodup → nth L i = some x → nth L j = some y → x.1 = y.1 → i = j
  | [], _, _, _, _, _, h, _, _ => by cases h
  | z :: r, 0, 0, _, _, _, _, _, _ => rfl
  | z :: r, 0, j + 1, x, y, hn, h1, h2, e => by
    cases h1
    have h2' : nth r j = some y := h2
    refine absurd ?_ (List.nodup_cons.mp hn).1
    have q2 := mem_adr (nth_mem h2')
    show z.1 ∈ _
    rw [e]; exact q2
  | z :: r, i + 1, 0, x, y, hn, h1, h2, e => by
    cases h2
    have h1' : nth r i = some x := h1
    refine absurd ?_ (List.nodup_cons.mp hn).1
    have q2 := mem_adr (nth_mem h1')
    show z.1 ∈ _
    rw [← e]; exact q2
  | z :: r, i + 1, j + 1, x, y, hn, h1, h2, e => congrArg Nat.succ (nth_inj (L := r) (List.nodup_cons.mp hn).2 h1 h2 e)
theorem Good.pick {B : Addr → Prop} {h : Heap} {L : HL} (G : Good B h L) : ∀ {is : List Nat}, is.Nodup → Good B h (pick L is)
  | [], _ => Good.nil _ _
  | i :: r, hn => by
    have ih := Good.pick G (List.nodup_cons.mp hn).2
    unfold OwnK.pick
    cases q : nth L i with
    | none => exact ih
    | some y =>
      refine ⟨List.nodup_cons.mpr ⟨fun hy => ?_, ih.1⟩, fun x hx => ?_⟩
      · obtain ⟨x, hx, e⟩ := List.mem_map.mp hy
        obtain ⟨j, hj, e2⟩ := pick_mem hx
        exact (List.nodup_cons.mp hn).1 (nth_inj G.1 q e2 e.symm ▸ hj)
      · rcases List.mem_cons.mp hx with rfl | hx
        · exact G.2 _ (nth_mem q)
        · exact ih.2 x hx
def puts (L : HL) : List Nat → HL → HL
  | i :: is, y :: ys => puts (upd L i y) is ys
  | _, _ => L
/- the items at the places is lie at the addresses of ys -/
def Fit2 (L : HL) : List Nat → HL → Prop
  | [], [] => True
  | i :: is, y :: ys => (∃ P, nth L i = some (y.1, P)) ∧ Fit2 L is ys
  | _, _ => False
theorem nth_upd_adr : ∀ {L : HL} {i j : Nat} {y : Item} {P : Cell → Prop} {b : Addr} {P' : Cell → Prop}, nth L i = some (y.1, P) → nth L j = some (b, P') → ∃ P'', nth (upd L i y) j = some (b, P'')
  | [], _, _, _, _, _, _, h, _ => by cases h
  | z :: r, 0, 0, y, P, b, P', h1, h2 => by
    cases h1
    have e : y.1 = b := congrArg Prod.fst (Option.some.inj h2)
    exact ⟨y.2, by rw [← e]; rfl⟩
  | z :: r, 0, j + 1, y, P, b, P', h1, h2 => ⟨P', h2⟩
  | z :: r, i + 1, 0, y, P, b, P', h1, h2 => ⟨P', h2⟩
  | z :: r, i + 1, j + 1, y, P, b, P', h1, h2 => nth_upd_adr (L := r) h1 h2
theorem Fit2.upd {L : HL} {i : Nat} {y : Item} {P : Cell → Prop} (h : nth L i = some (y.1, P)) : ∀ {is : List Nat} {ys : HL}, Fit2 L is ys → Fit2 (upd L i y) is ys
  | [], [], _ => trivial
  | j :: is, z :: ys, q => ⟨nth_upd_adr h q.1.choose_spec, Fit2.upd h q.2⟩
  | [], _ :: _, q => q.elim
  | _ :: _, [], q => q.elim
theorem puts_adr : ∀ {is : List Nat} {L : HL} {ys : HL}, Fit2 L is ys → adr (puts L is ys) = adr L
  | [], L, [], _ => rfl
  | i :: is, L, y :: ys, q => by
    obtain ⟨⟨P, h⟩, q⟩ := q
    show adr (puts (OwnK.upd L i y) is ys) = _
    rw [puts_adr (q.upd h)]
    exact adr_upd (P' := y.2) h
  | [], _, _ :: _, q => q.elim
  | _ :: _, _, [], q => q.elim
theorem puts_mem : ∀ {is : List Nat} {L : HL} {ys : HL} {x : Item}, Fit2 L is ys → (adr L).Nodup → x ∈ puts L is ys → x ∈ ys ∨ (x ∈ L ∧ x.1 ∉ adr ys)
  | [], L, [], x, _, _, h => Or.inr ⟨h, fun q => nomatch q⟩
  | i :: is, L, y :: ys, x, q, hn, h => by
    obtain ⟨⟨P, e⟩, q⟩ := q
    have h' : x ∈ puts (OwnK.upd L i y) is ys := h
    have hn' : (adr (OwnK.upd L i y)).Nodup := by rw [show adr (OwnK.upd L i y) = adr L from adr_upd (P' := y.2) e]; exact hn
    rcases puts_mem (q.upd e) hn' h' with r | ⟨r, r2⟩
    · exact Or.inl (List.mem_cons_of_mem _ r)
    · rcases upd_mem' e hn r with rfl | ⟨r, r3⟩
      · exact Or.inl List.mem_cons_self
      · exact Or.inr ⟨r, fun z => (List.mem_cons.mp z).elim r3 r2⟩
  | [], _, _ :: _, _, q, _, _ => q.elim
  | _ :: _, _, [], _, q, _, _ => q.elim
theorem fit2_of : ∀ {is : List Nat} {L : HL} {ys : HL}, (pick L is).length = is.length → adr ys = adr (pick L is) → Fit2 L is ys
  | [], L, [], _, _ => trivial
  | [], L, y :: ys, _, h => by cases h
  | i :: is, L, ys, hl, h => by
    unfold pick at hl h
    cases q : nth L i with
    | none =>
      rw [q] at hl
      have : ∀ js : List Nat, (pick L js).length ≤ js.length := fun js => by
        induction js with
        | nil => exact Nat.le_refl _
        | cons j r ih =>
          unfold pick
          cases nth L j with
          | none => exact Nat.le_succ_of_le ih
          | some _ => exact Nat.succ_le_succ ih
      have := this is
      rw [List.length_cons] at hl
      have hl' : (pick L is).length = is.length + 1 := hl
      omega
    | some z =>
      rw [q] at hl h
      cases ys with
      | nil => cases h
      | cons y ys =>
        have e : y.1 = z.1 := (List.cons.inj h).1
        exact ⟨⟨z.2, by rw [e]; exact q⟩, fit2_of (Nat.succ.inj hl) (List.cons.inj h).2⟩
/- what a call leaves of the caller's list -/
theorem Good.call {n0 : Nat} {B : Addr → Prop} {h h' : Heap} {L L0 L1 : HL} {is : List Nat} (G : Good B h L) (hp : OwnK.pick L is = L0) (hl : L0.length = is.length)
    (K : Keep h h' (adr L0)) (ha : (adr L1).take L0.length = adr L0) (G1 : Good (fun a => n0 ≤ a ∧ (a ∈ adr L0 ∨ h.size ≤ a)) h' L1) (hB : ∀ a, n0 ≤ a → h.size ≤ a → B a) :
    Good B h' (puts L is (L1.take L0.length) ++ L1.drop L0.length) := by
  subst hp
  generalize hn : (OwnK.pick L is).length = n at *
  have ha' : adr (L1.take n) = adr (OwnK.pick L is) := by rw [← ha]; simp [adr, List.map_take]
  have F : Fit2 L is (L1.take n) := fit2_of (hn.trans hl) ha'
  have hsplit : L1 = L1.take n ++ L1.drop n := (List.take_append_drop n L1).symm
  have hnd := G1.1
  rw [hsplit, adr, List.map_append] at hnd
  obtain ⟨-, hd2, hdis⟩ := List.nodup_append.mp hnd
  have hnew : ∀ x ∈ L1.drop n, n0 ≤ x.1 ∧ h.size ≤ x.1 := fun x hx => by
    obtain ⟨⟨g1, g2⟩, -⟩ := G1.2 x (List.mem_of_mem_drop hx)
    refine ⟨g1, g2.elim (fun q => ?_) id⟩
    rw [← ha'] at q
    exact absurd rfl (hdis _ q _ (mem_adr hx))
  refine ⟨?_, fun x hx => ?_⟩
  · rw [adr, List.map_append]
    refine List.nodup_append.mpr ⟨by rw [show (puts L is (L1.take n)).map (·.1) = adr L from puts_adr F]; exact G.1, hd2, fun a hx b hy => ?_⟩
    have ha1 : a ∈ adr L := by rw [← puts_adr F]; exact hx
    obtain ⟨y, hy', rfl⟩ := List.mem_map.mp hy
    exact Nat.ne_of_lt (Nat.lt_of_lt_of_le (G.lt ha1) (hnew y hy').2)
  · rcases List.mem_append.mp hx with hx | hx
    · rcases puts_mem F G.1 hx with hx | ⟨hx, ne⟩
      · refine ⟨?_, (G1.2 x (List.mem_of_mem_take hx)).2⟩
        have q : x.1 ∈ adr (OwnK.pick L is) := by rw [← ha']; exact mem_adr hx
        obtain ⟨y, hy, e⟩ := List.mem_map.mp q
        obtain ⟨i, -, hi⟩ := pick_mem hy
        rw [← e]; exact G.base hi
      · obtain ⟨b, c, h1, h2⟩ := G.2 x hx
        exact ⟨b, c, K.2.1 _ _ h1 (by rw [← ha']; exact ne), h2⟩
    · exact ⟨hB _ (hnew x hx).1 (hnew x hx).2, (G1.2 x (List.mem_of_mem_drop hx)).2⟩
/- what an item can be: an object with known fields, an array with known components -/
abbrev FV := String × String × String × Value
def FldC (Z : State) (c : Cell) (f : FV) : Prop := ∃ (cf : ClassId) (k : Class) (i : Nat) (fd : Field), Z.fieldFound? f.1 f.2.1 f.2.2.1 = some (cf, k, i, fd) ∧ fd.isStatic = false ∧ Z.vm.assignable c.cls cf = true ∧ c.slots[fd.slot]? = some f.2.2.2
def slots (Z : State) (fs : List FV) : List Nat := fs.map fun f => RoadKit.slotOf Z f.1 f.2.1 f.2.2.1
def Obj (Z : State) (C : String) (fs : List FV) (c : Cell) : Prop := (Z.vm.findClass C = some c.cls ∧ (∃ k, Z.vm.classes[c.cls]? = some k ∧ (k.kind = .ordinary → c.slots.size = k.instanceTypes.size)) ∧ c.vm.isStatics = false ∧ c.vm ≠ .unknown) ∧ (∀ f ∈ fs, FldC Z c f) ∧ (slots Z fs).Nodup
def Ary (Z : State) (ty : FieldType) (vs : List Value) (c : Cell) : Prop := (Z.isArrayOf c ty ∧ c.vm ≠ .unknown) ∧ c.slots.toList = vs ∧ ∀ v ∈ vs, fits ty v = true
def AryR (Z : State) (C : String) (vs : List Value) (c : Cell) : Prop := Ary Z (.object C) vs c ∧ Ovr Z c.cls C
theorem Obj.exa {Z : State} {C : String} {fs : List FV} {c : Cell} {h : Heap} {a : Addr} (O : Obj Z C fs c) (hc : h[a]? = some c) : Exa Z h a C := by
  obtain ⟨⟨h1, ⟨k, h2, h3⟩, h4, -⟩, -⟩ := O
  exact ⟨c, k, hc, h1, h2, h4, h3⟩
theorem Obj.fld {Z : State} {C : String} {fs : List FV} {c : Cell} {h : Heap} {a : Addr} (O : Obj Z C fs c) (hc : h[a]? = some c) {j : Nat} {R0 n d : String} {v : Value} (hj : nth fs j = some (R0, n, d, v)) : Fld Z h a R0 n d v := by
  obtain ⟨⟨-, -, h4, h5⟩, hf, -⟩ := O
  obtain ⟨cf, k, i, fd, g1, g2, g3, g4⟩ := hf _ (nth_mem hj)
  exact ⟨c, cf, k, i, fd, hc, g1, g2, h5, h4, g3, g4⟩
theorem slots_upd {Z : State} : ∀ {fs : List FV} {j : Nat} {R0 n d : String} {v w : Value}, nth fs j = some (R0, n, d, v) → slots Z (upd fs j (R0, n, d, w)) = slots Z fs
  | [], _, _, _, _, _, _, h => by cases h
  | y :: r, 0, _, _, _, _, _, h => by cases h; rfl
  | y :: r, k + 1, _, _, _, _, _, h => congrArg (RoadKit.slotOf Z y.1 y.2.1 y.2.2.1 :: ·) (slots_upd (fs := r) h)
theorem upd_memF {Z : State} : ∀ {fs : List FV} {j : Nat} {R0 n d : String} {v w : Value} {x : FV}, nth fs j = some (R0, n, d, v) → (slots Z fs).Nodup → x ∈ upd fs j (R0, n, d, w) → x = (R0, n, d, w) ∨ (x ∈ fs ∧ RoadKit.slotOf Z x.1 x.2.1 x.2.2.1 ≠ RoadKit.slotOf Z R0 n d)
  | [], _, _, _, _, _, _, _, h, _, _ => by cases h
  | z :: r, 0, R0, n, d, v, w, x, h, hn, hx => by
    cases h
    rcases List.mem_cons.mp hx with q | q
    · exact Or.inl q
    · refine Or.inr ⟨List.mem_cons_of_mem _ q, fun e => ?_⟩
      refine (List.nodup_cons.mp hn).1 ?_
      show RoadKit.slotOf Z R0 n d ∈ _
      rw [← e]; exact List.mem_map.mpr ⟨x, q, rfl⟩
  | z :: r, k + 1, R0, n, d, v, w, x, h, hn, hx => by
    rcases List.mem_cons.mp hx with q | q
    · subst q
      refine Or.inr ⟨List.mem_cons_self, fun e => ?_⟩
      have h' : nth r k = some (R0, n, d, v) := h
      refine (List.nodup_cons.mp hn).1 ?_
      show RoadKit.slotOf Z x.1 x.2.1 x.2.2.1 ∈ _
      rw [e]; exact List.mem_map.mpr ⟨_, nth_mem h', rfl⟩
    · exact (upd_memF (fs := r) h (List.nodup_cons.mp hn).2 q).imp id fun q => ⟨List.mem_cons_of_mem _ q.1, q.2⟩
theorem Obj.put {Z : State} {C : String} {fs : List FV} {c : Cell} (O : Obj Z C fs c) {j : Nat} {R0 n d : String} {v w : Value} (hj : nth fs j = some (R0, n, d, v)) (hs : RoadKit.slotOf Z R0 n d < c.slots.size) : Obj Z C (upd fs j (R0, n, d, w)) (c.setSlot (RoadKit.slotOf Z R0 n d) w) := by
  obtain ⟨⟨h1, ⟨k, h2, h3⟩, h4, h5⟩, hf, hn⟩ := O
  refine ⟨⟨h1, ⟨k, h2, fun q => by rw [sz_set]; exact h3 q⟩, h4, h5⟩, fun f hfm => ?_, by rw [slots_upd hj]; exact hn⟩
  rcases upd_memF hj hn hfm with rfl | ⟨hfm, ne⟩
  · obtain ⟨cf, k, i, fd, g1, g2, g3, g4⟩ := hf _ (nth_mem hj)
    refine ⟨cf, k, i, fd, g1, g2, g3, ?_⟩
    have e : RoadKit.slotOf Z R0 n d = fd.slot := by simp only [RoadKit.slotOf]; rw [show Z.fieldFound? R0 n d = _ from g1]; rfl
    rw [e] at hs ⊢
    simp [Cell.setSlot, hs]
  · obtain ⟨cf, k, i, fd, g1, g2, g3, g4⟩ := hf _ hfm
    refine ⟨cf, k, i, fd, g1, g2, g3, ?_⟩
    have e : RoadKit.slotOf Z f.1 f.2.1 f.2.2.1 = fd.slot := by simp only [RoadKit.slotOf]; rw [g1]; rfl
    rw [e] at ne
    simp only [Cell.setSlot]
    rw [Array.getElem?_setIfInBounds_ne (Ne.symm ne)]
    exact g4
theorem wr_live {h h' : Heap} {a : Addr} {sl : Nat} {v : Value} (W : Wr h h' a sl v) {P P' : Cell → Prop} (L : ∃ c, h[a]? = some c ∧ P c) (q : ∀ c, h[a]? = some c → P c → sl < c.slots.size → P' (c.setSlot sl v)) :
    Live h' (a, P') ∧ ∀ (x : Addr) (c : Cell), x ≠ a → h[x]? = some c → h'[x]? = some c := by
  obtain ⟨cell, h1, h2, h3, rfl⟩ := W
  obtain ⟨c, g1, g2⟩ := L
  cases h1.symm.trans g1
  refine ⟨⟨_, ?_, q cell h1 g2 h3⟩, fun x c ne hx => ?_⟩
  · show (h.setIfInBounds a _)[a]? = _
    rw [Array.getElem?_setIfInBounds_self_of_lt (Array.getElem?_eq_some_iff.mp h1).1]
  · rw [Array.getElem?_setIfInBounds_ne (Ne.symm ne)]; exact hx
/- a new object's fields -/
abbrev FT := String × String × String × FieldType
def LaidAll (Z : State) (a0 : Array Value) (C : String) : List FT → Prop
  | [] => True
  | f :: r => (Laid Z a0 C f.1 f.2.1 f.2.2.1 ∧ parseFieldDescriptor f.2.2.1 = some f.2.2.2) ∧ LaidAll Z a0 C r
theorem LaidAll.mem {Z : State} {a0 : Array Value} {C : String} : ∀ {fs : List FT}, LaidAll Z a0 C fs → ∀ f ∈ fs, Laid Z a0 C f.1 f.2.1 f.2.2.1 ∧ parseFieldDescriptor f.2.2.1 = some f.2.2.2
  | [], _, _, q => nomatch q
  | g :: r, H, f, q => (List.mem_cons.mp q).elim (fun e => e ▸ H.1) (LaidAll.mem H.2 f)
def fresh (fs : List FT) : List FV := fs.map fun f => (f.1, f.2.1, f.2.2.1, defaultValue f.2.2.2)
theorem nodup_slots {Z : State} {a0 : Array Value} {C : String} : ∀ {fs : List FT}, LaidAll Z a0 C fs → (fs.map (·.2.1)).Nodup → (slots Z (fresh fs)).Nodup
  | [], _, _ => List.nodup_nil
  | g :: r, H, hn => by
    obtain ⟨h1, h2⟩ := List.nodup_cons.mp hn
    refine List.nodup_cons.mpr ⟨fun q => ?_, nodup_slots H.2 h2⟩
    obtain ⟨y, hy, e⟩ := List.mem_map.mp q
    obtain ⟨f, hf, rfl⟩ := List.mem_map.mp hy
    obtain ⟨l1, l2⟩ := H.2.mem f hf
    refine slot_ne H.1.1 l1 (fun q => h1 ?_) H.1.2 l2 e.symm
    show g.2.1 ∈ _
    rw [q]; exact List.mem_map.mpr ⟨f, hf, rfl⟩
theorem obj_new {Z : State} {a0 : Array Value} {C : String} {fs : List FT} {h : Heap} {a : Addr} (H : LaidAll Z a0 C fs) (hn : (fs.map (·.2.1)).Nodup) (E : Exa Z h a C) (hv : ∃ cell : Cell, h[a]? = some cell ∧ cell.vm = .none)
    (D : ∀ {O nm d : String} {ty : FieldType}, Laid Z a0 C O nm d → parseFieldDescriptor d = some ty → Fld Z h a O nm d (defaultValue ty)) : Live h (a, Obj Z C (fresh fs)) := by
  obtain ⟨c, k, h1, h2, h3, h4, h5⟩ := E
  obtain ⟨c', g1, g2⟩ := hv
  cases h1.symm.trans g1
  refine ⟨c, h1, ⟨h2, ⟨k, h3, h5⟩, h4, by rw [g2]; exact fun q => nomatch q⟩, fun f hf => ?_, nodup_slots H hn⟩
  obtain ⟨g, hg, rfl⟩ := List.mem_map.mp hf
  obtain ⟨l1, l2⟩ := H.mem g hg
  obtain ⟨c'', cf, k', i, fd, q1, q2, q3, -, -, q6, q7⟩ := D l1 l2
  cases h1.symm.trans q1
  exact ⟨cf, k', i, fd, q2, q3, q6, q7⟩
theorem Ary.arr {Z : State} {ty : FieldType} {vs : List Value} {c : Cell} {h : Heap} {a : Addr} (A : Ary Z ty vs c) (hc : h[a]? = some c) : Arr Z h a c ty := ⟨hc, A.1⟩
theorem Ary.size {Z : State} {ty : FieldType} {vs : List Value} {c : Cell} (A : Ary Z ty vs c) : c.slots.size = vs.length := by rw [← A.2.1]; simp
theorem Ary.get {Z : State} {ty : FieldType} {vs : List Value} {c : Cell} (A : Ary Z ty vs c) {i : Nat} {v : Value} (h : nth vs i = some v) : c.slots[i]? = some v := by
  rw [nth_get, ← A.2.1] at h; rw [← h]; simp
theorem Ary.put {Z : State} {ty : FieldType} {vs : List Value} {c : Cell} (A : Ary Z ty vs c) {i : Nat} {v : Value} (hf : fits ty v = true) : Ary Z ty (upd vs i v) (c.setSlot i v) := by
  refine ⟨A.1, ?_, fun x hx => (upd_mem hx).elim (fun e => e ▸ hf) (A.2.2 x)⟩
  rw [upd_set, ← A.2.1]
  simp [Cell.setSlot]
theorem ary_new {Z : State} {ty : FieldType} {k : ClassId} {n : Int32} {h : Heap} {a : Addr} (A : Arr Z h a (newA k ty n) ty) : Ary Z ty (List.replicate n.toNatClampNeg (defaultValue ty)) (newA k ty n) := by
  refine ⟨A.2, by simp [newA], fun v hv => ?_⟩
  rw [(List.mem_replicate.mp hv).2]
  cases ty <;> rfl
theorem in_of {j : Int32} {i : Nat} {c : Cell} {vs : List Value} (hs : c.slots.size = vs.length) (h0 : ¬ j < 0) (hj : j.toNatClampNeg = i) (hi : i < vs.length) : ¬ (j < 0 ∨ c.slots.size ≤ j.toNatClampNeg) := fun q => q.elim h0 fun q => by rw [hs, hj] at q; exact Nat.not_lt.mpr q hi

def RoL (h : Heap) (L M : HL) : Prop := ∀ x ∈ M, Live h x ∧ x.1 ∉ adr L
def Bs (Z : State) (h0 : Heap) (L0 : HL) (a : Addr) : Prop := Z.heap.size ≤ a ∧ (a ∈ adr L0 ∨ h0.size ≤ a)
def St (p : Program) (l : Launch) (e : Env) (R : Room) (s : State) (m : MethodId) (args : Array Value) (below : List Frame) (meth : Method) (c : Code) (Z : State) (h0 : Heap) (L0 : HL) (T : State) (L M : HL) (cells slots : Nat) : Prop :=
  ∃ locs, Stand p l e R s m args below meth c T locs cells slots ∧ Fr Z.heap.size locs ∧ Old Z Z.heap.size T.heap ∧ Keep h0 T.heap (adr L0) ∧ Good (Bs Z h0 L0) T.heap L ∧ RoL T.heap L M
def Cx (p : Program) (s : State) (m : MethodId) (meth : Method) (c : Code) (Z : State) (own : String) (bytes : ByteArray) (maxl : Nat) (ret : Option FieldType) (nm : String) : Prop :=
  p.tables.exec = Jvm.exec ∧ c.code = bytes ∧ c.maxLocals = maxl ∧ s.vm.findClass own = some m.cls ∧ meth.sig.returnType = ret ∧ meth.locks = false ∧ Z.Warmed39 s.vm ∧ meth.name = nm
def Go (p : Program) (e : Env) (below : List Frame) (Q : Outcome → State → Prop) (t : State) : Prop := ∃ s₂ o, Steps p.tables e below t s₂ ∧ s₂.status = .running ∧ Ended s₂ below o ∧ Q o s₂
def RoN (Z : State) (h0 : Heap) (a : Addr) : Prop := a < Z.heap.size ∨ h0.size ≤ a
def Post (Z : State) (h0 : Heap) (L0 : HL) (Rel : Option Value → HL → HL → Prop) (v : Option Value) (h : Heap) (Ls : List Loc) : Prop :=
  Fr Z.heap.size Ls ∧ Old Z Z.heap.size h ∧ Keep h0 h (adr L0) ∧ ∃ L1 M1, Rel v L1 M1 ∧ (adr L1).take L0.length = adr L0 ∧ Good (Bs Z h0 L0) h L1 ∧ ∀ x ∈ M1, Live h x ∧ x.1 ∉ adr L1 ∧ RoN Z h0 x.1
def Qb (R : Room) (s : State) (Z : State) (h0 : Heap) (L0 : HL) (Rel : Option Value → HL → HL → Prop) (o : Outcome) (U : State) : Prop :=
  ∃ v Ls, o = .returned v ∧ Post Z h0 L0 Rel v U.heap Ls ∧ FrameEnd s o U Ls R.cells R.slots
abbrev Qw (R : Room) (s : State) (Z : State) (h0 : Heap) (L0 : HL) (Rel : Option Value → HL → HL → Prop) (o : Outcome) (U : State) : Prop := Qb R s Z h0 L0 Rel o U
def Con (l : Launch) (Z : State) (y : MethodName) (bytes : ByteArray) (maxl : Nat) (ret : Option FieldType) (rm : Room) (as' : Array Value) (L0 M0 : HL) (Rel : Option Value → HL → HL → Prop) : Prop :=
  ∀ (ws : List Jvm.Cond) (h0 : Heap), Old Z Z.heap.size h0 → Good (fun a => Z.heap.size ≤ a) h0 L0 → RoL h0 L0 M0 →
    MetFree l y (head1 (Jvm.Cond.code y bytes maxl ret :: ws) rm) (fun a U => a = as' ∧ Z.Warmed39 U.vm ∧ U.heap = h0) (fun _ _ _ _ _ => True) (fun _ U o U' => Qb rm U Z h0 L0 Rel o U')
theorem Con.of_body {l : Launch} {Z : State} {y : MethodName} {bytes : ByteArray} {maxl : Nat} {ret : Option FieldType} {rm : Room} {as' : Array Value} {L0 M0 : HL} {Rel : Option Value → HL → HL → Prop} {Ls : Array Slot} (hpl : plainFor y = true) (hef : ∀ m, entryFrame m as' maxl = mkF m 0 Ls [])
    (body : ∀ (p : Program) (e : Env) (s : State) (m : MethodId) (below : List Frame) (meth : Method) (c : Code) (T : State) (h0 : Heap), Cx p s m meth c Z y.cls bytes maxl ret y.name → St p l e rm s m as' below meth c Z h0 L0 T L0 M0 0 0 → Go p e below (Qw rm s Z h0 L0 Rel) (T.setTop (mkF m 0 Ls []))) :
    Con l Z y bytes maxl ret rm as' L0 M0 Rel := by
  intro ws h0 hO hG hM
  refine MetFree.of_bodySF hpl hisR ?_
  intro p e s m args below meth c s₁ Bd hml0 hP hK
  obtain ⟨rfl, hZ, hh⟩ := hP
  have e0 : s₁.heap = h0 := by rw [← hh, Bd.state]; rfl
  have X0 := Stand.of_body Bd
  have S0 : St p l e rm s m args below meth c Z h0 L0 s₁ L0 M0 0 0 := ⟨[], X0, Fr.nil _, by rw [e0]; exact hO, by rw [e0]; exact Keep.refl _ _, by rw [e0]; exact hG.mono fun x hx q => ⟨q, Or.inl (mem_adr hx)⟩, by rw [e0]; exact hM⟩
  rw [hef]
  exact body p e s m below meth c s₁ h0 ⟨Bd.exec, Bd.bytes, hml0, findClass_of_methodNamed Bd.named, Bd.returns, Bd.notSynchronized, hZ, (name_of_methodNamed Bd.named Bd.method).1⟩ S0

section Laws
variable {p : Program} {l : Launch} {e : Env} {R : Room} {s : State} {m : MethodId} {args : Array Value} {below : List Frame} {meth : Method} {c : Code} {Z : State} {h0 : Heap} {L0 : HL} {own : String} {bytes : ByteArray} {maxl : Nat} {ret : Option FieldType} {nm : String} {T : State} {L M : HL} {cells slots : Nat} {Q : Outcome → State → Prop} {pc : Nat} {Ls : Array Slot} {st : List Value} {a0 : Array Value}

theorem St.good (S : St p l e R s m args below meth c Z h0 L0 T L M cells slots) : ∃ B, Good B T.heap L := by obtain ⟨_, -, -, -, -, G, -⟩ := S; exact ⟨_, G⟩
theorem St.old (S : St p l e R s m args below meth c Z h0 L0 T L M cells slots) : Old Z Z.heap.size T.heap := by obtain ⟨_, -, -, O, -⟩ := S; exact O
theorem St.here (S : St p l e R s m args below meth c Z h0 L0 T L M cells slots) : At T m c below := by obtain ⟨_, X, -⟩ := S; exact X.here
theorem Cx.hd (C : Cx p s m meth c Z own bytes maxl ret nm) {r : Except DecodeError (Instr × Nat)} (h : decode bytes pc = r) : decode c.code pc = r := by rw [C.2.1]; exact h
theorem St.at (S : St p l e R s m args below meth c Z h0 L0 T L M cells slots) (i : Nat) {a : Addr} {P : Cell → Prop} (hi : nth L i = some (a, P)) : ∃ c, T.heap[a]? = some c ∧ P c := by obtain ⟨B, G⟩ := S.good; exact G.at hi
theorem St.atM (S : St p l e R s m args below meth c Z h0 L0 T L M cells slots) (i : Nat) {a : Addr} {P : Cell → Prop} (hi : nth M i = some (a, P)) : ∃ c, T.heap[a]? = some c ∧ P c := by obtain ⟨_, -, -, -, -, -, q⟩ := S; exact (q _ (nth_mem hi)).1
theorem St.atR (S : St p l e R s m args below meth c Z h0 L0 T L M cells slots) (i : Nat) {a : Addr} {K : String} {vs : List Value} (hi : nth L i = some (a, AryR Z K vs)) : ∃ c, T.heap[a]? = some c ∧ Ary Z (.object K) vs c := by obtain ⟨c, h, A⟩ := S.at i hi; exact ⟨c, h, A.1⟩
theorem St.atRM (S : St p l e R s m args below meth c Z h0 L0 T L M cells slots) (i : Nat) {a : Addr} {K : String} {vs : List Value} (hi : nth M i = some (a, AryR Z K vs)) : ∃ c, T.heap[a]? = some c ∧ Ary Z (.object K) vs c := by obtain ⟨c, h, A⟩ := S.atM i hi; exact ⟨c, h, A.1⟩
theorem St.fld (S : St p l e R s m args below meth c Z h0 L0 T L M cells slots) (i : Nat) {a : Addr} {K : String} {fs : List FV} (hi : nth L i = some (a, Obj Z K fs)) (j : Nat) {O n d : String} {v : Value} (hj : nth fs j = some (O, n, d, v)) : Fld Z T.heap a O n d v := by obtain ⟨c, h, P⟩ := S.at i hi; exact P.fld h hj
theorem St.fldM (S : St p l e R s m args below meth c Z h0 L0 T L M cells slots) (i : Nat) {a : Addr} {K : String} {fs : List FV} (hi : nth M i = some (a, Obj Z K fs)) (j : Nat) {O n d : String} {v : Value} (hj : nth fs j = some (O, n, d, v)) : Fld Z T.heap a O n d v := by obtain ⟨c, h, P⟩ := S.atM i hi; exact P.fld h hj
theorem St.exa (S : St p l e R s m args below meth c Z h0 L0 T L M cells slots) (i : Nat) {a : Addr} {K : String} {fs : List FV} (hi : nth L i = some (a, Obj Z K fs)) : Exa Z T.heap a K := by obtain ⟨c, h, P⟩ := S.at i hi; exact P.exa h
theorem St.exaM (S : St p l e R s m args below meth c Z h0 L0 T L M cells slots) (i : Nat) {a : Addr} {K : String} {fs : List FV} (hi : nth M i = some (a, Obj Z K fs)) : Exa Z T.heap a K := by obtain ⟨c, h, P⟩ := S.atM i hi; exact P.exa h
theorem St.oldF (S : St p l e R s m args below meth c Z h0 L0 T L M cells slots) {a : Addr} {O n d : String} {v : Value} (F : Fld Z Z.heap a O n d v) : Fld Z T.heap a O n d v := F.ext S.old.2
theorem St.oldE (S : St p l e R s m args below meth c Z h0 L0 T L M cells slots) {a : Addr} {K : String} (F : Exa Z Z.heap a K) : Exa Z T.heap a K := F.ext S.old.2
theorem St.oldS (S : St p l e R s m args below meth c Z h0 L0 T L M cells slots) {O n d : String} {v : Value} (F : Sta Z Z.heap O n d v) : Sta Z T.heap O n d v := F.ext S.old.2
theorem St.oldA (S : St p l e R s m args below meth c Z h0 L0 T L M cells slots) {a : Addr} {P : Cell → Prop} (F : ∃ c, Z.heap[a]? = some c ∧ P c) : ∃ c, T.heap[a]? = some c ∧ P c := by obtain ⟨c, h, q⟩ := F; exact ⟨c, S.old.2.2 _ _ h, q⟩
theorem St.ne (S : St p l e R s m args below meth c Z h0 L0 T L M cells slots) {i j : Nat} {x y : Item} (hi : nth L i = some x) (hj : nth L j = some y) (h : i ≠ j) : x.1 ≠ y.1 := by obtain ⟨B, G⟩ := S.good; exact fun q => h (nth_inj G.1 hi hj q)
theorem St.neM (S : St p l e R s m args below meth c Z h0 L0 T L M cells slots) {i j : Nat} {x y : Item} (hi : nth L i = some x) (hj : nth M j = some y) : x.1 ≠ y.1 := by obtain ⟨_, -, -, -, -, -, q⟩ := S; exact fun e => (q _ (nth_mem hj)).2 (e ▸ mem_adr (nth_mem hi))
theorem St.neOld (S : St p l e R s m args below meth c Z h0 L0 T L M cells slots) {i : Nat} {x : Item} (hi : nth L i = some x) {b : Addr} (h : b < Z.heap.size) : x.1 ≠ b := by obtain ⟨_, -, -, -, -, G, -⟩ := S; exact fun q => absurd (q ▸ (G.base hi).1) (Nat.not_le.mpr h)
theorem St.weak (S : St p l e R s m args below meth c Z h0 L0 T L M cells slots) {cells' slots' : Nat} (h1 : cells ≤ cells') (h2 : slots ≤ slots') : St p l e R s m args below meth c Z h0 L0 T L M cells' slots' := by obtain ⟨locs, X, r⟩ := S; exact ⟨locs, { X with same := X.same.mono h1 h2 }, r⟩
theorem St.pick (S : St p l e R s m args below meth c Z h0 L0 T L M cells slots) (is js : List Nat) {L' M' : HL} (h : OwnK.pick L is = L') (h' : OwnK.pick M js = M') (hn : is.Nodup) : St p l e R s m args below meth c Z h0 L0 T L' M' cells slots := by 
  obtain ⟨locs, X, a3, a4, a5, G, q⟩ := S
  refine ⟨locs, X, a3, a4, a5, h ▸ G.pick hn, fun x hx => ?_⟩
  subst h h'
  obtain ⟨j, -, hj⟩ := pick_mem hx
  obtain ⟨r1, r2⟩ := q x (nth_mem hj)
  refine ⟨r1, fun z => r2 ?_⟩
  obtain ⟨y, hy, e⟩ := List.mem_map.mp z
  obtain ⟨i, -, hi⟩ := pick_mem hy
  exact e ▸ mem_adr (nth_mem hi)
theorem St.as (S : St p l e R s m args below meth c Z h0 L0 T L M cells slots) {L' M' : HL} {cells' slots' : Nat} (h : L = L') (h' : M = M') (h1 : cells = cells') (h2 : slots = slots') : St p l e R s m args below meth c Z h0 L0 T L' M' cells' slots' := by subst h h' h1 h2; exact S
theorem Go.step {t t' : State} (h : ∀ target, Steps p.tables e below t' target → Steps p.tables e below t target) (k : Go p e below Q t') : Go p e below Q t := by
  obtain ⟨s2, o, h1, h2⟩ := k; exact ⟨s2, o, h _ h1, h2⟩
theorem Go.cut {α : Type} {H : α → Prop} {f : α → State} {t : State} (k : ∀ y, H y → Go p e below Q (f y)) (r : (∀ y, H y → Go p e below Q (f y)) → Go p e below Q t) : Go p e below Q t := r k
theorem Go.trans {t t' : State} (h : Steps p.tables e below t t') (k : Go p e below Q t') : Go p e below Q t := by
  obtain ⟨s2, o, h1, h2⟩ := k; exact ⟨s2, o, h.trans h1, h2⟩
theorem RoL.ext {h h' : Heap} (q : RoL h L M) (E : Ext h h') : RoL h' L M := fun x hx => by
  obtain ⟨⟨c, h1, h2⟩, r⟩ := q x hx; exact ⟨⟨c, E.2 _ _ h1, h2⟩, r⟩
theorem RoL.new {h h' : Heap} {P : Cell → Prop} (q : RoL h L M) (E : Ext h h') : RoL h' (L ++ [(h.size, P)]) M := fun x hx => by
  obtain ⟨L1, r⟩ := q x hx
  refine ⟨((q.ext E) x hx).1, fun z => ?_⟩
  rw [adr, List.map_append] at z
  rcases List.mem_append.mp z with z | z
  · exact r z
  · rw [List.map_cons, List.map_nil] at z
    exact absurd (List.mem_singleton.mp z) (Nat.ne_of_lt L1.lt)
theorem RoL.wr {h h' : Heap} {i : Nat} {a : Addr} {P P' : Cell → Prop} (q : RoL h L M) (hi : nth L i = some (a, P)) (k : ∀ (x : Addr) (c : Cell), x ≠ a → h[x]? = some c → h'[x]? = some c) : RoL h' (upd L i (a, P')) M := fun x hx => by
  obtain ⟨⟨c, h1, h2⟩, r⟩ := q x hx
  refine ⟨⟨c, k _ _ (fun e => r (e ▸ mem_adr (nth_mem hi))) h1, h2⟩, ?_⟩
  rw [adr_upd hi]; exact r
theorem St.opn (C : Cx p s m meth c Z own bytes maxl ret nm) (S : St p l e R s m args below meth c Z h0 L0 T L M cells slots) : ∃ (s' : State) (locs : List Loc), Stand p l e R s' m args below meth c T locs cells slots ∧ Z.Warmed39 s'.vm ∧ s'.vm.findClass own = some m.cls ∧
    (∀ T', Stand p l e R s' m args below meth c T' locs cells slots → T'.heap = T.heap → St p l e R s m args below meth c Z h0 L0 T' L M cells slots) ∧
    (∀ (T' : State) (h' : Heap) (P : Cell → Prop) (k n : Nat), Stand p l e R s' m args below meth c T' locs (cells + k) (slots + n) → T'.heap = h' → Ext T.heap h' → Live h' (T.heap.size, P) → St p l e R s m args below meth c Z h0 L0 T' (L ++ [(T.heap.size, P)]) M (cells + k) (slots + n)) ∧
    (∀ (T' : State) (h' : Heap) (i : Nat) (a : Addr) (P P' : Cell → Prop) (sl : Nat) (v : Value), nth L i = some (a, P) → Stand p l e R s' m args below meth c T' (locs ++ [⟨a, sl⟩]) cells slots → T'.heap = h' → Wr T.heap h' a sl v → (∀ c, T.heap[a]? = some c → P c → sl < c.slots.size → P' (c.setSlot sl v)) → St p l e R s m args below meth c Z h0 L0 T' (upd L i (a, P')) M cells slots) := by
  obtain ⟨locs, X, N, O, K, G, q⟩ := S
  refine ⟨s, locs, X, C.2.2.2.2.2.2.1, C.2.2.2.1, ?_, ?_, ?_⟩
  · intro T' X' e'
    exact ⟨locs, X', N, by rw [e']; exact O, by rw [e']; exact K, by rw [e']; exact G, by rw [e']; exact q⟩
  · intro T' h' P k n X' e' E Lv
    subst e'
    exact ⟨locs, X', N, O.ext E, K.ext E, G.new E Lv ⟨O.2.1, Or.inr K.1⟩, q.new E⟩
  · intro T' h' i a P P' sl v hi X' e' W hP
    subst e'
    obtain ⟨b1, b2⟩ := G.base hi
    obtain ⟨q1, q2⟩ := wr_live W (P' := P') (G.at hi) hP
    exact ⟨_, X', Fr.snoc X' N b1, O.wr W b1, K.wr W b2, G.set hi q2 q1, q.wr hi q2⟩
theorem Cx.iload (C : Cx p s m meth c Z own bytes maxl ret nm) (S : St p l e R s m args below meth c Z h0 L0 T L M cells slots) {i : Nat} {v : Int32} (hd : decode bytes pc = .ok (.iload i, 2)) (pc' : Nat) (hp : pc + 2 = pc') (hl : Ls[i]? = some (.val (.int v))) (k : Go p e below Q (T.setTop (mkF m pc' Ls (.int v :: st)))) : Go p e below Q (T.setTop (mkF m pc Ls st)) := by
  subst hp; exact Go.step (fun t k => XS.iload S.here C.1 rfl (C.hd hd) hl k) k
theorem Cx.iloadN (C : Cx p s m meth c Z own bytes maxl ret nm) (S : St p l e R s m args below meth c Z h0 L0 T L M cells slots) {i : Fin 4} {v : Int32} (hd : decode bytes pc = .ok (.iload_n i, 1)) (pc' : Nat) (hp : pc + 1 = pc') (hl : Ls[i.val]? = some (.val (.int v))) (k : Go p e below Q (T.setTop (mkF m pc' Ls (.int v :: st)))) : Go p e below Q (T.setTop (mkF m pc Ls st)) := by
  subst hp; exact Go.step (fun t k => XS.iloadN S.here C.1 rfl (C.hd hd) hl k) k
theorem Cx.lload (C : Cx p s m meth c Z own bytes maxl ret nm) (S : St p l e R s m args below meth c Z h0 L0 T L M cells slots) {i : Nat} {v : Int64} (hd : decode bytes pc = .ok (.lload i, 2)) (pc' : Nat) (hp : pc + 2 = pc') (hl : Ls[i]? = some (.val (.long v))) (k : Go p e below Q (T.setTop (mkF m pc' Ls (.long v :: st)))) : Go p e below Q (T.setTop (mkF m pc Ls st)) := by
  subst hp; exact Go.step (fun t k => XT.lload S.here C.1 rfl (C.hd hd) hl k) k
theorem Cx.lloadN (C : Cx p s m meth c Z own bytes maxl ret nm) (S : St p l e R s m args below meth c Z h0 L0 T L M cells slots) {i : Fin 4} {v : Int64} (hd : decode bytes pc = .ok (.lload_n i, 1)) (pc' : Nat) (hp : pc + 1 = pc') (hl : Ls[i.val]? = some (.val (.long v))) (k : Go p e below Q (T.setTop (mkF m pc' Ls (.long v :: st)))) : Go p e below Q (T.setTop (mkF m pc Ls st)) := by
  subst hp; exact Go.step (fun t k => XT.lloadN S.here C.1 rfl (C.hd hd) hl k) k
theorem Cx.aload (C : Cx p s m meth c Z own bytes maxl ret nm) (S : St p l e R s m args below meth c Z h0 L0 T L M cells slots) {i : Nat} {v : Value} (hd : decode bytes pc = .ok (.aload i, 2)) (pc' : Nat) (hp : pc + 2 = pc') (hl : Ls[i]? = some (.val v)) (hv : v.isRef = true) (k : Go p e below Q (T.setTop (mkF m pc' Ls (v :: st)))) : Go p e below Q (T.setTop (mkF m pc Ls st)) := by
  subst hp; exact Go.step (fun t k => XS.aload S.here C.1 rfl (C.hd hd) hl hv k) k
theorem Cx.aloadN (C : Cx p s m meth c Z own bytes maxl ret nm) (S : St p l e R s m args below meth c Z h0 L0 T L M cells slots) {i : Fin 4} {v : Value} (hd : decode bytes pc = .ok (.aload_n i, 1)) (pc' : Nat) (hp : pc + 1 = pc') (hl : Ls[i.val]? = some (.val v)) (hv : v.isRef = true) (k : Go p e below Q (T.setTop (mkF m pc' Ls (v :: st)))) : Go p e below Q (T.setTop (mkF m pc Ls st)) := by
  subst hp; exact Go.step (fun t k => XS.aloadN S.here C.1 rfl (C.hd hd) hl hv k) k
theorem Cx.istore (C : Cx p s m meth c Z own bytes maxl ret nm) (S : St p l e R s m args below meth c Z h0 L0 T L M cells slots) {i : Nat} {x : Int32} (hd : decode bytes pc = .ok (.istore i, 2)) (pc' : Nat) (hp : pc + 2 = pc') (l' : Array Slot) (hl : storeLocals Ls i (.int x) = some l') (k : Go p e below Q (T.setTop (mkF m pc' l' st))) : Go p e below Q (T.setTop (mkF m pc Ls ((.int x) :: st))) := by
  subst hp; exact Go.step (fun t k => XS.istore S.here C.1 rfl (C.hd hd) rfl hl k) k
theorem Cx.istoreN (C : Cx p s m meth c Z own bytes maxl ret nm) (S : St p l e R s m args below meth c Z h0 L0 T L M cells slots) {i : Fin 4} {x : Int32} (hd : decode bytes pc = .ok (.istore_n i, 1)) (pc' : Nat) (hp : pc + 1 = pc') (l' : Array Slot) (hl : storeLocals Ls i.val (.int x) = some l') (k : Go p e below Q (T.setTop (mkF m pc' l' st))) : Go p e below Q (T.setTop (mkF m pc Ls ((.int x) :: st))) := by
  subst hp; exact Go.step (fun t k => XS.istoreN S.here C.1 rfl (C.hd hd) rfl hl k) k
theorem Cx.lstore (C : Cx p s m meth c Z own bytes maxl ret nm) (S : St p l e R s m args below meth c Z h0 L0 T L M cells slots) {i : Nat} {x : Int64} (hd : decode bytes pc = .ok (.lstore i, 2)) (pc' : Nat) (hp : pc + 2 = pc') (l' : Array Slot) (hl : storeLocals Ls i (.long x) = some l') (k : Go p e below Q (T.setTop (mkF m pc' l' st))) : Go p e below Q (T.setTop (mkF m pc Ls ((.long x) :: st))) := by
  subst hp; exact Go.step (fun t k => XT.lstore S.here C.1 rfl (C.hd hd) rfl hl k) k
theorem Cx.lstoreN (C : Cx p s m meth c Z own bytes maxl ret nm) (S : St p l e R s m args below meth c Z h0 L0 T L M cells slots) {i : Fin 4} {x : Int64} (hd : decode bytes pc = .ok (.lstore_n i, 1)) (pc' : Nat) (hp : pc + 1 = pc') (l' : Array Slot) (hl : storeLocals Ls i.val (.long x) = some l') (k : Go p e below Q (T.setTop (mkF m pc' l' st))) : Go p e below Q (T.setTop (mkF m pc Ls ((.long x) :: st))) := by
  subst hp; exact Go.step (fun t k => XT.lstoreN S.here C.1 rfl (C.hd hd) rfl hl k) k
theorem Cx.astore (C : Cx p s m meth c Z own bytes maxl ret nm) (S : St p l e R s m args below meth c Z h0 L0 T L M cells slots) {i : Nat} {x : Value} (hd : decode bytes pc = .ok (.astore i, 2)) (pc' : Nat) (hp : pc + 2 = pc') (hv : x.isRef = true) (l' : Array Slot) (hl : storeLocals Ls i x = some l') (k : Go p e below Q (T.setTop (mkF m pc' l' st))) : Go p e below Q (T.setTop (mkF m pc Ls (x :: st))) := by
  subst hp; exact Go.step (fun t k => XS.astore S.here C.1 rfl (C.hd hd) rfl hv hl k) k
theorem Cx.astoreN (C : Cx p s m meth c Z own bytes maxl ret nm) (S : St p l e R s m args below meth c Z h0 L0 T L M cells slots) {i : Fin 4} {x : Value} (hd : decode bytes pc = .ok (.astore_n i, 1)) (pc' : Nat) (hp : pc + 1 = pc') (hv : x.isRef = true) (l' : Array Slot) (hl : storeLocals Ls i.val x = some l') (k : Go p e below Q (T.setTop (mkF m pc' l' st))) : Go p e below Q (T.setTop (mkF m pc Ls (x :: st))) := by
  subst hp; exact Go.step (fun t k => XS.astoreN S.here C.1 rfl (C.hd hd) rfl hv hl k) k
theorem Cx.iconst (C : Cx p s m meth c Z own bytes maxl ret nm) (S : St p l e R s m args below meth c Z h0 L0 T L M cells slots) {i : Int} (hd : decode bytes pc = .ok (.iconst i, 1)) (pc' : Nat) (hp : pc + 1 = pc') (v : Int32) (hv : Int32.ofInt i = v) (k : Go p e below Q (T.setTop (mkF m pc' Ls (.int v :: st)))) : Go p e below Q (T.setTop (mkF m pc Ls st)) := by
  subst hp; exact Go.step (fun t k => XT.iconstV S.here C.1 rfl v (C.hd hd) hv k) k
theorem Cx.bipush (C : Cx p s m meth c Z own bytes maxl ret nm) (S : St p l e R s m args below meth c Z h0 L0 T L M cells slots) {i : Int} (hd : decode bytes pc = .ok (.bipush i, 2)) (pc' : Nat) (hp : pc + 2 = pc') (v : Int32) (hv : (Int8.ofInt i).toInt32 = v) (k : Go p e below Q (T.setTop (mkF m pc' Ls (.int v :: st)))) : Go p e below Q (T.setTop (mkF m pc Ls st)) := by
  subst hp; exact Go.step (fun t k => XT.bipushV S.here C.1 rfl v (C.hd hd) hv k) k
theorem Cx.sipush (C : Cx p s m meth c Z own bytes maxl ret nm) (S : St p l e R s m args below meth c Z h0 L0 T L M cells slots) {i : Int} (hd : decode bytes pc = .ok (.sipush i, 3)) (pc' : Nat) (hp : pc + 3 = pc') (v : Int32) (hv : (Int16.ofInt i).toInt32 = v) (k : Go p e below Q (T.setTop (mkF m pc' Ls (.int v :: st)))) : Go p e below Q (T.setTop (mkF m pc Ls st)) := by
  subst hp; exact Go.step (fun t k => XT.sipushV S.here C.1 rfl v (C.hd hd) hv k) k
theorem Cx.lconst (C : Cx p s m meth c Z own bytes maxl ret nm) (S : St p l e R s m args below meth c Z h0 L0 T L M cells slots) {i : Fin 2} (hd : decode bytes pc = .ok (.lconst i, 1)) (pc' : Nat) (hp : pc + 1 = pc') (v : Int64) (hv : Int64.ofNat i = v) (k : Go p e below Q (T.setTop (mkF m pc' Ls (.long v :: st)))) : Go p e below Q (T.setTop (mkF m pc Ls st)) := by
  subst hp; exact Go.step (fun t k => XT.lconstV S.here C.1 rfl v (C.hd hd) hv k) k
theorem Cx.iinc (C : Cx p s m meth c Z own bytes maxl ret nm) (S : St p l e R s m args below meth c Z h0 L0 T L M cells slots) {i : Nat} {cst : Int} {x : Int32} (hd : decode bytes pc = .ok (.iinc i cst, 3)) (pc' : Nat) (hp : pc + 3 = pc') (hl0 : Ls[i]? = some (.val (.int x))) (y v : Int32) (hv : Int32.ofInt cst = v) (hy : x + v = y) (l' : Array Slot) (hl : storeLocals Ls i (.int y) = some l') (k : Go p e below Q (T.setTop (mkF m pc' l' st))) : Go p e below Q (T.setTop (mkF m pc Ls st)) := by
  subst hp; subst hy; exact Go.step (fun t k => XT.iincV S.here C.1 rfl v (C.hd hd) hv hl0 hl k) k
theorem Cx.aconstNull (C : Cx p s m meth c Z own bytes maxl ret nm) (S : St p l e R s m args below meth c Z h0 L0 T L M cells slots)  (hd : decode bytes pc = .ok (.aconst_null, 1)) (pc' : Nat) (hp : pc + 1 = pc')  (k : Go p e below Q (T.setTop (mkF m pc' Ls (.null :: st)))) : Go p e below Q (T.setTop (mkF m pc Ls st)) := by
  subst hp; exact Go.step (fun t k => XS.aconstNull S.here C.1 rfl (C.hd hd)  k) k
theorem Cx.iadd (C : Cx p s m meth c Z own bytes maxl ret nm) (S : St p l e R s m args below meth c Z h0 L0 T L M cells slots) {x y : Int32} (hd : decode bytes pc = .ok (.iadd, 1)) (pc' : Nat) (hp : pc + 1 = pc') (z : Int32) (hz : x + y = z) (k : Go p e below Q (T.setTop (mkF m pc' Ls (.int z :: st)))) : Go p e below Q (T.setTop (mkF m pc Ls (.int y :: .int x :: st))) := by
  subst hp; subst hz; exact Go.step (fun t k => XS.iadd S.here C.1 rfl (C.hd hd) rfl k) k
theorem Cx.isub (C : Cx p s m meth c Z own bytes maxl ret nm) (S : St p l e R s m args below meth c Z h0 L0 T L M cells slots) {x y : Int32} (hd : decode bytes pc = .ok (.isub, 1)) (pc' : Nat) (hp : pc + 1 = pc') (z : Int32) (hz : x - y = z) (k : Go p e below Q (T.setTop (mkF m pc' Ls (.int z :: st)))) : Go p e below Q (T.setTop (mkF m pc Ls (.int y :: .int x :: st))) := by
  subst hp; subst hz; exact Go.step (fun t k => XS.isub S.here C.1 rfl (C.hd hd) rfl k) k
theorem Cx.imul (C : Cx p s m meth c Z own bytes maxl ret nm) (S : St p l e R s m args below meth c Z h0 L0 T L M cells slots) {x y : Int32} (hd : decode bytes pc = .ok (.imul, 1)) (pc' : Nat) (hp : pc + 1 = pc') (z : Int32) (hz : x * y = z) (k : Go p e below Q (T.setTop (mkF m pc' Ls (.int z :: st)))) : Go p e below Q (T.setTop (mkF m pc Ls (.int y :: .int x :: st))) := by
  subst hp; subst hz; exact Go.step (fun t k => XS.imul S.here C.1 rfl (C.hd hd) rfl k) k
theorem Cx.iand (C : Cx p s m meth c Z own bytes maxl ret nm) (S : St p l e R s m args below meth c Z h0 L0 T L M cells slots) {x y : Int32} (hd : decode bytes pc = .ok (.iand, 1)) (pc' : Nat) (hp : pc + 1 = pc') (z : Int32) (hz : x &&& y = z) (k : Go p e below Q (T.setTop (mkF m pc' Ls (.int z :: st)))) : Go p e below Q (T.setTop (mkF m pc Ls (.int y :: .int x :: st))) := by
  subst hp; subst hz; exact Go.step (fun t k => XS.iand S.here C.1 rfl (C.hd hd) rfl k) k
theorem Cx.ior (C : Cx p s m meth c Z own bytes maxl ret nm) (S : St p l e R s m args below meth c Z h0 L0 T L M cells slots) {x y : Int32} (hd : decode bytes pc = .ok (.ior, 1)) (pc' : Nat) (hp : pc + 1 = pc') (z : Int32) (hz : x ||| y = z) (k : Go p e below Q (T.setTop (mkF m pc' Ls (.int z :: st)))) : Go p e below Q (T.setTop (mkF m pc Ls (.int y :: .int x :: st))) := by
  subst hp; subst hz; exact Go.step (fun t k => XT.ior S.here C.1 rfl (C.hd hd) rfl k) k
theorem Cx.ixor (C : Cx p s m meth c Z own bytes maxl ret nm) (S : St p l e R s m args below meth c Z h0 L0 T L M cells slots) {x y : Int32} (hd : decode bytes pc = .ok (.ixor, 1)) (pc' : Nat) (hp : pc + 1 = pc') (z : Int32) (hz : x ^^^ y = z) (k : Go p e below Q (T.setTop (mkF m pc' Ls (.int z :: st)))) : Go p e below Q (T.setTop (mkF m pc Ls (.int y :: .int x :: st))) := by
  subst hp; subst hz; exact Go.step (fun t k => XT.ixor S.here C.1 rfl (C.hd hd) rfl k) k
theorem Cx.ishl (C : Cx p s m meth c Z own bytes maxl ret nm) (S : St p l e R s m args below meth c Z h0 L0 T L M cells slots) {x y : Int32} (hd : decode bytes pc = .ok (.ishl, 1)) (pc' : Nat) (hp : pc + 1 = pc') (z : Int32) (hz : x <<< (y &&& 31) = z) (k : Go p e below Q (T.setTop (mkF m pc' Ls (.int z :: st)))) : Go p e below Q (T.setTop (mkF m pc Ls (.int y :: .int x :: st))) := by
  subst hp; subst hz; exact Go.step (fun t k => XT.ishl S.here C.1 rfl (C.hd hd) rfl k) k
theorem Cx.ishr (C : Cx p s m meth c Z own bytes maxl ret nm) (S : St p l e R s m args below meth c Z h0 L0 T L M cells slots) {x y : Int32} (hd : decode bytes pc = .ok (.ishr, 1)) (pc' : Nat) (hp : pc + 1 = pc') (z : Int32) (hz : x >>> (y &&& 31) = z) (k : Go p e below Q (T.setTop (mkF m pc' Ls (.int z :: st)))) : Go p e below Q (T.setTop (mkF m pc Ls (.int y :: .int x :: st))) := by
  subst hp; subst hz; exact Go.step (fun t k => XT.ishr S.here C.1 rfl (C.hd hd) rfl k) k
theorem Cx.iushr (C : Cx p s m meth c Z own bytes maxl ret nm) (S : St p l e R s m args below meth c Z h0 L0 T L M cells slots) {x y : Int32} (hd : decode bytes pc = .ok (.iushr, 1)) (pc' : Nat) (hp : pc + 1 = pc') (z : Int32) (hz : XT.ushr x y = z) (k : Go p e below Q (T.setTop (mkF m pc' Ls (.int z :: st)))) : Go p e below Q (T.setTop (mkF m pc Ls (.int y :: .int x :: st))) := by
  subst hp; subst hz; exact Go.step (fun t k => XT.iushr S.here C.1 rfl (C.hd hd) rfl k) k
theorem Cx.ladd (C : Cx p s m meth c Z own bytes maxl ret nm) (S : St p l e R s m args below meth c Z h0 L0 T L M cells slots) {x y : Int64} (hd : decode bytes pc = .ok (.ladd, 1)) (pc' : Nat) (hp : pc + 1 = pc') (z : Int64) (hz : x + y = z) (k : Go p e below Q (T.setTop (mkF m pc' Ls (.long z :: st)))) : Go p e below Q (T.setTop (mkF m pc Ls (.long y :: .long x :: st))) := by
  subst hp; subst hz; exact Go.step (fun t k => XT.ladd S.here C.1 rfl (C.hd hd) rfl k) k
theorem Cx.lsub (C : Cx p s m meth c Z own bytes maxl ret nm) (S : St p l e R s m args below meth c Z h0 L0 T L M cells slots) {x y : Int64} (hd : decode bytes pc = .ok (.lsub, 1)) (pc' : Nat) (hp : pc + 1 = pc') (z : Int64) (hz : x - y = z) (k : Go p e below Q (T.setTop (mkF m pc' Ls (.long z :: st)))) : Go p e below Q (T.setTop (mkF m pc Ls (.long y :: .long x :: st))) := by
  subst hp; subst hz; exact Go.step (fun t k => XT.lsub S.here C.1 rfl (C.hd hd) rfl k) k
theorem Cx.lmul (C : Cx p s m meth c Z own bytes maxl ret nm) (S : St p l e R s m args below meth c Z h0 L0 T L M cells slots) {x y : Int64} (hd : decode bytes pc = .ok (.lmul, 1)) (pc' : Nat) (hp : pc + 1 = pc') (z : Int64) (hz : x * y = z) (k : Go p e below Q (T.setTop (mkF m pc' Ls (.long z :: st)))) : Go p e below Q (T.setTop (mkF m pc Ls (.long y :: .long x :: st))) := by
  subst hp; subst hz; exact Go.step (fun t k => XT.lmul S.here C.1 rfl (C.hd hd) rfl k) k
theorem Cx.land (C : Cx p s m meth c Z own bytes maxl ret nm) (S : St p l e R s m args below meth c Z h0 L0 T L M cells slots) {x y : Int64} (hd : decode bytes pc = .ok (.land, 1)) (pc' : Nat) (hp : pc + 1 = pc') (z : Int64) (hz : x &&& y = z) (k : Go p e below Q (T.setTop (mkF m pc' Ls (.long z :: st)))) : Go p e below Q (T.setTop (mkF m pc Ls (.long y :: .long x :: st))) := by
  subst hp; subst hz; exact Go.step (fun t k => XT.land S.here C.1 rfl (C.hd hd) rfl k) k
theorem Cx.lor (C : Cx p s m meth c Z own bytes maxl ret nm) (S : St p l e R s m args below meth c Z h0 L0 T L M cells slots) {x y : Int64} (hd : decode bytes pc = .ok (.lor, 1)) (pc' : Nat) (hp : pc + 1 = pc') (z : Int64) (hz : x ||| y = z) (k : Go p e below Q (T.setTop (mkF m pc' Ls (.long z :: st)))) : Go p e below Q (T.setTop (mkF m pc Ls (.long y :: .long x :: st))) := by
  subst hp; subst hz; exact Go.step (fun t k => XT.lor S.here C.1 rfl (C.hd hd) rfl k) k
theorem Cx.lxor (C : Cx p s m meth c Z own bytes maxl ret nm) (S : St p l e R s m args below meth c Z h0 L0 T L M cells slots) {x y : Int64} (hd : decode bytes pc = .ok (.lxor, 1)) (pc' : Nat) (hp : pc + 1 = pc') (z : Int64) (hz : x ^^^ y = z) (k : Go p e below Q (T.setTop (mkF m pc' Ls (.long z :: st)))) : Go p e below Q (T.setTop (mkF m pc Ls (.long y :: .long x :: st))) := by
  subst hp; subst hz; exact Go.step (fun t k => XT.lxor S.here C.1 rfl (C.hd hd) rfl k) k
theorem Cx.lshl (C : Cx p s m meth c Z own bytes maxl ret nm) (S : St p l e R s m args below meth c Z h0 L0 T L M cells slots) {x : Int64} {y : Int32} (hd : decode bytes pc = .ok (.lshl, 1)) (pc' : Nat) (hp : pc + 1 = pc') (z : Int64) (hz : x <<< (y.toInt64 &&& 63) = z) (k : Go p e below Q (T.setTop (mkF m pc' Ls (.long z :: st)))) : Go p e below Q (T.setTop (mkF m pc Ls (.int y :: .long x :: st))) := by
  subst hp; subst hz; exact Go.step (fun t k => XT.lshl S.here C.1 rfl (C.hd hd) rfl k) k
theorem Cx.lshr (C : Cx p s m meth c Z own bytes maxl ret nm) (S : St p l e R s m args below meth c Z h0 L0 T L M cells slots) {x : Int64} {y : Int32} (hd : decode bytes pc = .ok (.lshr, 1)) (pc' : Nat) (hp : pc + 1 = pc') (z : Int64) (hz : x >>> (y.toInt64 &&& 63) = z) (k : Go p e below Q (T.setTop (mkF m pc' Ls (.long z :: st)))) : Go p e below Q (T.setTop (mkF m pc Ls (.int y :: .long x :: st))) := by
  subst hp; subst hz; exact Go.step (fun t k => XT.lshr S.here C.1 rfl (C.hd hd) rfl k) k
theorem Cx.lushr (C : Cx p s m meth c Z own bytes maxl ret nm) (S : St p l e R s m args below meth c Z h0 L0 T L M cells slots) {x : Int64} {y : Int32} (hd : decode bytes pc = .ok (.lushr, 1)) (pc' : Nat) (hp : pc + 1 = pc') (z : Int64) (hz : XT.ushrL x y = z) (k : Go p e below Q (T.setTop (mkF m pc' Ls (.long z :: st)))) : Go p e below Q (T.setTop (mkF m pc Ls (.int y :: .long x :: st))) := by
  subst hp; subst hz; exact Go.step (fun t k => XT.lushr S.here C.1 rfl (C.hd hd) rfl k) k
theorem Cx.lcmp (C : Cx p s m meth c Z own bytes maxl ret nm) (S : St p l e R s m args below meth c Z h0 L0 T L M cells slots) {x y : Int64} (hd : decode bytes pc = .ok (.lcmp, 1)) (pc' : Nat) (hp : pc + 1 = pc') (z : Int32) (hz : XT.cmpL x y = z) (k : Go p e below Q (T.setTop (mkF m pc' Ls (.int z :: st)))) : Go p e below Q (T.setTop (mkF m pc Ls (.long y :: .long x :: st))) := by
  subst hp; subst hz; exact Go.step (fun t k => XT.lcmp S.here C.1 rfl (C.hd hd) rfl k) k
theorem Cx.idiv (C : Cx p s m meth c Z own bytes maxl ret nm) (S : St p l e R s m args below meth c Z h0 L0 T L M cells slots) {x y : Int32} (hd : decode bytes pc = .ok (.idiv, 1)) (pc' : Nat) (hp : pc + 1 = pc') (hy : y ≠ 0) (z : Int32) (hz : x / y = z) (k : Go p e below Q (T.setTop (mkF m pc' Ls (.int z :: st)))) : Go p e below Q (T.setTop (mkF m pc Ls (.int y :: .int x :: st))) := by
  subst hp; subst hz; obtain ⟨_, _, X, -⟩ := S.opn C; exact Go.step (fun t k => XS.idiv S.here C.1 rfl (C.hd hd) rfl hy k) k
theorem Cx.irem (C : Cx p s m meth c Z own bytes maxl ret nm) (S : St p l e R s m args below meth c Z h0 L0 T L M cells slots) {x y : Int32} (hd : decode bytes pc = .ok (.irem, 1)) (pc' : Nat) (hp : pc + 1 = pc') (hy : y ≠ 0) (z : Int32) (hz : x % y = z) (k : Go p e below Q (T.setTop (mkF m pc' Ls (.int z :: st)))) : Go p e below Q (T.setTop (mkF m pc Ls (.int y :: .int x :: st))) := by
  subst hp; subst hz; obtain ⟨_, _, X, -⟩ := S.opn C; exact Go.step (fun t k => iremM X C.1 rfl (C.hd hd) rfl hy k) k
theorem Cx.ineg (C : Cx p s m meth c Z own bytes maxl ret nm) (S : St p l e R s m args below meth c Z h0 L0 T L M cells slots) {x : Int32} (hd : decode bytes pc = .ok (.ineg, 1)) (pc' : Nat) (hp : pc + 1 = pc') (z : Int32) (hz : -x = z) (k : Go p e below Q (T.setTop (mkF m pc' Ls (.int z :: st)))) : Go p e below Q (T.setTop (mkF m pc Ls (.int x :: st))) := by
  subst hp; subst hz; exact Go.step (fun t k => XS.ineg S.here C.1 rfl (C.hd hd) rfl k) k
theorem Cx.lneg (C : Cx p s m meth c Z own bytes maxl ret nm) (S : St p l e R s m args below meth c Z h0 L0 T L M cells slots) {x : Int64} (hd : decode bytes pc = .ok (.lneg, 1)) (pc' : Nat) (hp : pc + 1 = pc') (z : Int64) (hz : -x = z) (k : Go p e below Q (T.setTop (mkF m pc' Ls (.long z :: st)))) : Go p e below Q (T.setTop (mkF m pc Ls (.long x :: st))) := by
  subst hp; subst hz; exact Go.step (fun t k => XT.lneg S.here C.1 rfl (C.hd hd) rfl k) k
theorem Cx.i2l (C : Cx p s m meth c Z own bytes maxl ret nm) (S : St p l e R s m args below meth c Z h0 L0 T L M cells slots) {x : Int32} (hd : decode bytes pc = .ok (.i2l, 1)) (pc' : Nat) (hp : pc + 1 = pc') (z : Int64) (hz : x.toInt64 = z) (k : Go p e below Q (T.setTop (mkF m pc' Ls (.long z :: st)))) : Go p e below Q (T.setTop (mkF m pc Ls (.int x :: st))) := by
  subst hp; subst hz; exact Go.step (fun t k => XT.i2l S.here C.1 rfl (C.hd hd) rfl k) k
theorem Cx.l2i (C : Cx p s m meth c Z own bytes maxl ret nm) (S : St p l e R s m args below meth c Z h0 L0 T L M cells slots) {x : Int64} (hd : decode bytes pc = .ok (.l2i, 1)) (pc' : Nat) (hp : pc + 1 = pc') (z : Int32) (hz : x.toInt32 = z) (k : Go p e below Q (T.setTop (mkF m pc' Ls (.int z :: st)))) : Go p e below Q (T.setTop (mkF m pc Ls (.long x :: st))) := by
  subst hp; subst hz; exact Go.step (fun t k => XT.l2i S.here C.1 rfl (C.hd hd) rfl k) k
theorem Cx.i2b (C : Cx p s m meth c Z own bytes maxl ret nm) (S : St p l e R s m args below meth c Z h0 L0 T L M cells slots) {x : Int32} (hd : decode bytes pc = .ok (.i2b, 1)) (pc' : Nat) (hp : pc + 1 = pc') (z : Int32) (hz : x.toInt8.toInt32 = z) (k : Go p e below Q (T.setTop (mkF m pc' Ls (.int z :: st)))) : Go p e below Q (T.setTop (mkF m pc Ls (.int x :: st))) := by
  subst hp; subst hz; exact Go.step (fun t k => XT.i2b S.here C.1 rfl (C.hd hd) rfl k) k
theorem Cx.i2c (C : Cx p s m meth c Z own bytes maxl ret nm) (S : St p l e R s m args below meth c Z h0 L0 T L M cells slots) {x : Int32} (hd : decode bytes pc = .ok (.i2c, 1)) (pc' : Nat) (hp : pc + 1 = pc') (z : Int32) (hz : x.toUInt32.toUInt16.toUInt32.toInt32 = z) (k : Go p e below Q (T.setTop (mkF m pc' Ls (.int z :: st)))) : Go p e below Q (T.setTop (mkF m pc Ls (.int x :: st))) := by
  subst hp; subst hz; exact Go.step (fun t k => XT.i2c S.here C.1 rfl (C.hd hd) rfl k) k
theorem Cx.i2s (C : Cx p s m meth c Z own bytes maxl ret nm) (S : St p l e R s m args below meth c Z h0 L0 T L M cells slots) {x : Int32} (hd : decode bytes pc = .ok (.i2s, 1)) (pc' : Nat) (hp : pc + 1 = pc') (z : Int32) (hz : x.toInt16.toInt32 = z) (k : Go p e below Q (T.setTop (mkF m pc' Ls (.int z :: st)))) : Go p e below Q (T.setTop (mkF m pc Ls (.int x :: st))) := by
  subst hp; subst hz; exact Go.step (fun t k => XT.i2s S.here C.1 rfl (C.hd hd) rfl k) k
theorem Cx.dup (C : Cx p s m meth c Z own bytes maxl ret nm) (S : St p l e R s m args below meth c Z h0 L0 T L M cells slots) {x : Value} (hd : decode bytes pc = .ok (.dup, 1)) (pc' : Nat) (hp : pc + 1 = pc') (hc : x.category = 1) (k : Go p e below Q (T.setTop (mkF m pc' Ls (x :: x :: st)))) : Go p e below Q (T.setTop (mkF m pc Ls (x :: st))) := by
  subst hp; exact Go.step (fun t k => XS.dup S.here C.1 rfl (C.hd hd) rfl hc k) k
theorem Cx.pop (C : Cx p s m meth c Z own bytes maxl ret nm) (S : St p l e R s m args below meth c Z h0 L0 T L M cells slots) {x : Value} (hd : decode bytes pc = .ok (.pop, 1)) (pc' : Nat) (hp : pc + 1 = pc') (hc : x.category = 1) (k : Go p e below Q (T.setTop (mkF m pc' Ls st))) : Go p e below Q (T.setTop (mkF m pc Ls (x :: st))) := by
  subst hp; exact Go.step (fun t k => XT.pop S.here C.1 rfl (C.hd hd) rfl hc k) k
theorem Cx.dupX1 (C : Cx p s m meth c Z own bytes maxl ret nm) (S : St p l e R s m args below meth c Z h0 L0 T L M cells slots) {x y : Value} (hd : decode bytes pc = .ok (.dup_x1, 1)) (pc' : Nat) (hp : pc + 1 = pc') (hc : x.category = 1) (hc' : y.category = 1) (k : Go p e below Q (T.setTop (mkF m pc' Ls (x :: y :: x :: st)))) : Go p e below Q (T.setTop (mkF m pc Ls (x :: y :: st))) := by
  subst hp; exact Go.step (fun t k => XT.dupX1 S.here C.1 rfl (C.hd hd) rfl hc hc' k) k
theorem Cx.dup2 (C : Cx p s m meth c Z own bytes maxl ret nm) (S : St p l e R s m args below meth c Z h0 L0 T L M cells slots) {x y : Value} (hd : decode bytes pc = .ok (.dup2, 1)) (pc' : Nat) (hp : pc + 1 = pc') (hc : x.category = 1) (hc' : y.category = 1) (k : Go p e below Q (T.setTop (mkF m pc' Ls (x :: y :: x :: y :: st)))) : Go p e below Q (T.setTop (mkF m pc Ls (x :: y :: st))) := by
  subst hp; exact Go.step (fun t k => XT.dup2 S.here C.1 rfl (C.hd hd) rfl hc hc' k) k
theorem Cx.dup2L (C : Cx p s m meth c Z own bytes maxl ret nm) (S : St p l e R s m args below meth c Z h0 L0 T L M cells slots) {x : Int64} (hd : decode bytes pc = .ok (.dup2, 1)) (pc' : Nat) (hp : pc + 1 = pc')  (k : Go p e below Q (T.setTop (mkF m pc' Ls (.long x :: .long x :: st)))) : Go p e below Q (T.setTop (mkF m pc Ls (.long x :: st))) := by
  subst hp; exact Go.step (fun t k => XT.dup2L S.here C.1 rfl (C.hd hd) rfl k) k
theorem Cx.dupX2 (C : Cx p s m meth c Z own bytes maxl ret nm) (S : St p l e R s m args below meth c Z h0 L0 T L M cells slots) {x y z : Value} (hd : decode bytes pc = .ok (.dup_x2, 1)) (pc' : Nat) (hp : pc + 1 = pc') (hx : x.category = 1) (hy : y.category = 1) (hz : z.category = 1) (k : Go p e below Q (T.setTop (mkF m pc' Ls (x :: y :: z :: x :: st)))) : Go p e below Q (T.setTop (mkF m pc Ls (x :: y :: z :: st))) := by
  subst hp
  refine Go.step (fun t k => ?_) k
  jvm_step S.here [S.here.top, C.1, (C.hd hd : decode c.code pc = _), hx, hy, hz]
  exact k
theorem Cx.goto (C : Cx p s m meth c Z own bytes maxl ret nm) (S : St p l e R s m args below meth c Z h0 L0 T L M cells slots) {o : Int} (hd : decode bytes pc = .ok (.goto o, 3)) (pc' : Nat) (h1 : 0 ≤ (pc : Int) + o) (hp : ((pc : Int) + o).toNat = pc') (k : Go p e below Q (T.setTop (mkF m pc' Ls st))) : Go p e below Q (T.setTop (mkF m pc Ls st)) := by
  exact Go.step (fun t k => XS.goto S.here C.1 rfl (pc0 := pc) (pc' := pc') rfl (C.hd hd) h1 hp k) k
theorem Cx.if_eq (C : Cx p s m meth c Z own bytes maxl ret nm) (S : St p l e R s m args below meth c Z h0 L0 T L M cells slots) {x : Int32} {o : Int} (hd : decode bytes pc = .ok (.ifCond .eq o, 3)) (pt pf : Nat) (h1 : 0 ≤ (pc : Int) + o) (ht : ((pc : Int) + o).toNat = pt) (hf : pc + 3 = pf) (kt : x = 0 → Go p e below Q (T.setTop (mkF m pt Ls st))) (kf : ¬ x = 0 → Go p e below Q (T.setTop (mkF m pf Ls st))) : Go p e below Q (T.setTop (mkF m pc Ls (.int x :: st))) := by
  subst hf
  by_cases q : x = 0
  · exact Go.step (fun t k => XS.ifYes S.here C.1 rfl (pc0 := pc) (pc' := pt) rfl (C.hd hd) rfl (XT.i0_eq_t q) h1 ht k) (kt q)
  · exact Go.step (fun t k => XS.ifNo S.here C.1 rfl (C.hd hd) rfl (XT.i0_eq_f q) k) (kf q)
theorem Cx.icmp_eq (C : Cx p s m meth c Z own bytes maxl ret nm) (S : St p l e R s m args below meth c Z h0 L0 T L M cells slots) {x y : Int32} {o : Int} (hd : decode bytes pc = .ok (.if_icmp .eq o, 3)) (pt pf : Nat) (h1 : 0 ≤ (pc : Int) + o) (ht : ((pc : Int) + o).toNat = pt) (hf : pc + 3 = pf) (kt : x = y → Go p e below Q (T.setTop (mkF m pt Ls st))) (kf : ¬ x = y → Go p e below Q (T.setTop (mkF m pf Ls st))) : Go p e below Q (T.setTop (mkF m pc Ls (.int y :: .int x :: st))) := by
  subst hf
  by_cases q : x = y
  · exact Go.step (fun t k => XS.icmpYes S.here C.1 rfl (pc0 := pc) (pc' := pt) rfl (C.hd hd) rfl (XT.ii_eq_t q) h1 ht k) (kt q)
  · exact Go.step (fun t k => XS.icmpNo S.here C.1 rfl (C.hd hd) rfl (XT.ii_eq_f q) k) (kf q)
theorem Cx.if_ne (C : Cx p s m meth c Z own bytes maxl ret nm) (S : St p l e R s m args below meth c Z h0 L0 T L M cells slots) {x : Int32} {o : Int} (hd : decode bytes pc = .ok (.ifCond .ne o, 3)) (pt pf : Nat) (h1 : 0 ≤ (pc : Int) + o) (ht : ((pc : Int) + o).toNat = pt) (hf : pc + 3 = pf) (kt : ¬ x = 0 → Go p e below Q (T.setTop (mkF m pt Ls st))) (kf : x = 0 → Go p e below Q (T.setTop (mkF m pf Ls st))) : Go p e below Q (T.setTop (mkF m pc Ls (.int x :: st))) := by
  subst hf
  by_cases q : x = 0
  · exact Go.step (fun t k => XS.ifNo S.here C.1 rfl (C.hd hd) rfl (XT.i0_ne_f q) k) (kf q)
  · exact Go.step (fun t k => XS.ifYes S.here C.1 rfl (pc0 := pc) (pc' := pt) rfl (C.hd hd) rfl (XT.i0_ne_t q) h1 ht k) (kt q)
theorem Cx.icmp_ne (C : Cx p s m meth c Z own bytes maxl ret nm) (S : St p l e R s m args below meth c Z h0 L0 T L M cells slots) {x y : Int32} {o : Int} (hd : decode bytes pc = .ok (.if_icmp .ne o, 3)) (pt pf : Nat) (h1 : 0 ≤ (pc : Int) + o) (ht : ((pc : Int) + o).toNat = pt) (hf : pc + 3 = pf) (kt : ¬ x = y → Go p e below Q (T.setTop (mkF m pt Ls st))) (kf : x = y → Go p e below Q (T.setTop (mkF m pf Ls st))) : Go p e below Q (T.setTop (mkF m pc Ls (.int y :: .int x :: st))) := by
  subst hf
  by_cases q : x = y
  · exact Go.step (fun t k => XS.icmpNo S.here C.1 rfl (C.hd hd) rfl (XT.ii_ne_f q) k) (kf q)
  · exact Go.step (fun t k => XS.icmpYes S.here C.1 rfl (pc0 := pc) (pc' := pt) rfl (C.hd hd) rfl (XT.ii_ne_t q) h1 ht k) (kt q)
theorem Cx.if_lt (C : Cx p s m meth c Z own bytes maxl ret nm) (S : St p l e R s m args below meth c Z h0 L0 T L M cells slots) {x : Int32} {o : Int} (hd : decode bytes pc = .ok (.ifCond .lt o, 3)) (pt pf : Nat) (h1 : 0 ≤ (pc : Int) + o) (ht : ((pc : Int) + o).toNat = pt) (hf : pc + 3 = pf) (kt : x < 0 → Go p e below Q (T.setTop (mkF m pt Ls st))) (kf : ¬ x < 0 → Go p e below Q (T.setTop (mkF m pf Ls st))) : Go p e below Q (T.setTop (mkF m pc Ls (.int x :: st))) := by
  subst hf
  by_cases q : x < 0
  · exact Go.step (fun t k => XS.ifYes S.here C.1 rfl (pc0 := pc) (pc' := pt) rfl (C.hd hd) rfl (XT.i0_lt_t q) h1 ht k) (kt q)
  · exact Go.step (fun t k => XS.ifNo S.here C.1 rfl (C.hd hd) rfl (XT.i0_lt_f q) k) (kf q)
theorem Cx.icmp_lt (C : Cx p s m meth c Z own bytes maxl ret nm) (S : St p l e R s m args below meth c Z h0 L0 T L M cells slots) {x y : Int32} {o : Int} (hd : decode bytes pc = .ok (.if_icmp .lt o, 3)) (pt pf : Nat) (h1 : 0 ≤ (pc : Int) + o) (ht : ((pc : Int) + o).toNat = pt) (hf : pc + 3 = pf) (kt : x < y → Go p e below Q (T.setTop (mkF m pt Ls st))) (kf : ¬ x < y → Go p e below Q (T.setTop (mkF m pf Ls st))) : Go p e below Q (T.setTop (mkF m pc Ls (.int y :: .int x :: st))) := by
  subst hf
  by_cases q : x < y
  · exact Go.step (fun t k => XS.icmpYes S.here C.1 rfl (pc0 := pc) (pc' := pt) rfl (C.hd hd) rfl (XT.ii_lt_t q) h1 ht k) (kt q)
  · exact Go.step (fun t k => XS.icmpNo S.here C.1 rfl (C.hd hd) rfl (XT.ii_lt_f q) k) (kf q)
theorem Cx.if_ge (C : Cx p s m meth c Z own bytes maxl ret nm) (S : St p l e R s m args below meth c Z h0 L0 T L M cells slots) {x : Int32} {o : Int} (hd : decode bytes pc = .ok (.ifCond .ge o, 3)) (pt pf : Nat) (h1 : 0 ≤ (pc : Int) + o) (ht : ((pc : Int) + o).toNat = pt) (hf : pc + 3 = pf) (kt : ¬ x < 0 → Go p e below Q (T.setTop (mkF m pt Ls st))) (kf : x < 0 → Go p e below Q (T.setTop (mkF m pf Ls st))) : Go p e below Q (T.setTop (mkF m pc Ls (.int x :: st))) := by
  subst hf
  by_cases q : x < 0
  · exact Go.step (fun t k => XS.ifNo S.here C.1 rfl (C.hd hd) rfl (XT.i0_ge_f q) k) (kf q)
  · exact Go.step (fun t k => XS.ifYes S.here C.1 rfl (pc0 := pc) (pc' := pt) rfl (C.hd hd) rfl (XT.i0_ge_t q) h1 ht k) (kt q)
theorem Cx.icmp_ge (C : Cx p s m meth c Z own bytes maxl ret nm) (S : St p l e R s m args below meth c Z h0 L0 T L M cells slots) {x y : Int32} {o : Int} (hd : decode bytes pc = .ok (.if_icmp .ge o, 3)) (pt pf : Nat) (h1 : 0 ≤ (pc : Int) + o) (ht : ((pc : Int) + o).toNat = pt) (hf : pc + 3 = pf) (kt : ¬ x < y → Go p e below Q (T.setTop (mkF m pt Ls st))) (kf : x < y → Go p e below Q (T.setTop (mkF m pf Ls st))) : Go p e below Q (T.setTop (mkF m pc Ls (.int y :: .int x :: st))) := by
  subst hf
  by_cases q : x < y
  · exact Go.step (fun t k => XS.icmpNo S.here C.1 rfl (C.hd hd) rfl (XT.ii_ge_f q) k) (kf q)
  · exact Go.step (fun t k => XS.icmpYes S.here C.1 rfl (pc0 := pc) (pc' := pt) rfl (C.hd hd) rfl (XT.ii_ge_t q) h1 ht k) (kt q)
theorem Cx.if_gt (C : Cx p s m meth c Z own bytes maxl ret nm) (S : St p l e R s m args below meth c Z h0 L0 T L M cells slots) {x : Int32} {o : Int} (hd : decode bytes pc = .ok (.ifCond .gt o, 3)) (pt pf : Nat) (h1 : 0 ≤ (pc : Int) + o) (ht : ((pc : Int) + o).toNat = pt) (hf : pc + 3 = pf) (kt : 0 < x → Go p e below Q (T.setTop (mkF m pt Ls st))) (kf : ¬ 0 < x → Go p e below Q (T.setTop (mkF m pf Ls st))) : Go p e below Q (T.setTop (mkF m pc Ls (.int x :: st))) := by
  subst hf
  by_cases q : 0 < x
  · exact Go.step (fun t k => XS.ifYes S.here C.1 rfl (pc0 := pc) (pc' := pt) rfl (C.hd hd) rfl (XT.i0_gt_t q) h1 ht k) (kt q)
  · exact Go.step (fun t k => XS.ifNo S.here C.1 rfl (C.hd hd) rfl (XT.i0_gt_f q) k) (kf q)
theorem Cx.icmp_gt (C : Cx p s m meth c Z own bytes maxl ret nm) (S : St p l e R s m args below meth c Z h0 L0 T L M cells slots) {x y : Int32} {o : Int} (hd : decode bytes pc = .ok (.if_icmp .gt o, 3)) (pt pf : Nat) (h1 : 0 ≤ (pc : Int) + o) (ht : ((pc : Int) + o).toNat = pt) (hf : pc + 3 = pf) (kt : y < x → Go p e below Q (T.setTop (mkF m pt Ls st))) (kf : ¬ y < x → Go p e below Q (T.setTop (mkF m pf Ls st))) : Go p e below Q (T.setTop (mkF m pc Ls (.int y :: .int x :: st))) := by
  subst hf
  by_cases q : y < x
  · exact Go.step (fun t k => XS.icmpYes S.here C.1 rfl (pc0 := pc) (pc' := pt) rfl (C.hd hd) rfl (XT.ii_gt_t q) h1 ht k) (kt q)
  · exact Go.step (fun t k => XS.icmpNo S.here C.1 rfl (C.hd hd) rfl (XT.ii_gt_f q) k) (kf q)
theorem Cx.if_le (C : Cx p s m meth c Z own bytes maxl ret nm) (S : St p l e R s m args below meth c Z h0 L0 T L M cells slots) {x : Int32} {o : Int} (hd : decode bytes pc = .ok (.ifCond .le o, 3)) (pt pf : Nat) (h1 : 0 ≤ (pc : Int) + o) (ht : ((pc : Int) + o).toNat = pt) (hf : pc + 3 = pf) (kt : ¬ 0 < x → Go p e below Q (T.setTop (mkF m pt Ls st))) (kf : 0 < x → Go p e below Q (T.setTop (mkF m pf Ls st))) : Go p e below Q (T.setTop (mkF m pc Ls (.int x :: st))) := by
  subst hf
  by_cases q : 0 < x
  · exact Go.step (fun t k => XS.ifNo S.here C.1 rfl (C.hd hd) rfl (XT.i0_le_f q) k) (kf q)
  · exact Go.step (fun t k => XS.ifYes S.here C.1 rfl (pc0 := pc) (pc' := pt) rfl (C.hd hd) rfl (XT.i0_le_t q) h1 ht k) (kt q)
theorem Cx.icmp_le (C : Cx p s m meth c Z own bytes maxl ret nm) (S : St p l e R s m args below meth c Z h0 L0 T L M cells slots) {x y : Int32} {o : Int} (hd : decode bytes pc = .ok (.if_icmp .le o, 3)) (pt pf : Nat) (h1 : 0 ≤ (pc : Int) + o) (ht : ((pc : Int) + o).toNat = pt) (hf : pc + 3 = pf) (kt : ¬ y < x → Go p e below Q (T.setTop (mkF m pt Ls st))) (kf : y < x → Go p e below Q (T.setTop (mkF m pf Ls st))) : Go p e below Q (T.setTop (mkF m pc Ls (.int y :: .int x :: st))) := by
  subst hf
  by_cases q : y < x
  · exact Go.step (fun t k => XS.icmpNo S.here C.1 rfl (C.hd hd) rfl (XT.ii_le_f q) k) (kf q)
  · exact Go.step (fun t k => XS.icmpYes S.here C.1 rfl (pc0 := pc) (pc' := pt) rfl (C.hd hd) rfl (XT.ii_le_t q) h1 ht k) (kt q)
theorem Cx.acmp_eq (C : Cx p s m meth c Z own bytes maxl ret nm) (S : St p l e R s m args below meth c Z h0 L0 T L M cells slots) {x y : Value} {o : Int} (hd : decode bytes pc = .ok (.if_acmp .eq o, 3)) (hx : x.isRef = true) (hy : y.isRef = true) (pt pf : Nat) (h1 : 0 ≤ (pc : Int) + o) (ht : ((pc : Int) + o).toNat = pt) (hf : pc + 3 = pf) (kt : x = y → Go p e below Q (T.setTop (mkF m pt Ls st))) (kf : ¬ x = y → Go p e below Q (T.setTop (mkF m pf Ls st))) : Go p e below Q (T.setTop (mkF m pc Ls (y :: x :: st))) := by
  subst hf
  by_cases q : x = y
  · exact Go.step (fun t k => XT.acmpYes S.here C.1 rfl (pc0 := pc) (pc' := pt) rfl (C.hd hd) rfl hx hy (XT.aa_eq_t q) h1 ht k) (kt q)
  · exact Go.step (fun t k => XT.acmpNo S.here C.1 rfl (C.hd hd) rfl hx hy (XT.aa_eq_f q) k) (kf q)
theorem Cx.acmp_ne (C : Cx p s m meth c Z own bytes maxl ret nm) (S : St p l e R s m args below meth c Z h0 L0 T L M cells slots) {x y : Value} {o : Int} (hd : decode bytes pc = .ok (.if_acmp .ne o, 3)) (hx : x.isRef = true) (hy : y.isRef = true) (pt pf : Nat) (h1 : 0 ≤ (pc : Int) + o) (ht : ((pc : Int) + o).toNat = pt) (hf : pc + 3 = pf) (kt : ¬ x = y → Go p e below Q (T.setTop (mkF m pt Ls st))) (kf : x = y → Go p e below Q (T.setTop (mkF m pf Ls st))) : Go p e below Q (T.setTop (mkF m pc Ls (y :: x :: st))) := by
  subst hf
  by_cases q : x = y
  · exact Go.step (fun t k => XT.acmpNo S.here C.1 rfl (C.hd hd) rfl hx hy (XT.aa_ne_f q) k) (kf q)
  · exact Go.step (fun t k => XT.acmpYes S.here C.1 rfl (pc0 := pc) (pc' := pt) rfl (C.hd hd) rfl hx hy (XT.aa_ne_t q) h1 ht k) (kt q)
theorem Cx.ifnullNo (C : Cx p s m meth c Z own bytes maxl ret nm) (S : St p l e R s m args below meth c Z h0 L0 T L M cells slots) {o : Int} {b : Addr} (hd : decode bytes pc = .ok (.ifnull o, 3)) (pc' : Nat) (hp : pc + 3 = pc')  (k : Go p e below Q (T.setTop (mkF m pc' Ls st))) : Go p e below Q (T.setTop (mkF m pc Ls (.ref b :: st))) := by
  subst hp; exact Go.step (fun t k => XS.ifnullNo S.here C.1 rfl (C.hd hd) rfl k) k
theorem Cx.ifnonnullNo (C : Cx p s m meth c Z own bytes maxl ret nm) (S : St p l e R s m args below meth c Z h0 L0 T L M cells slots) {o : Int} (hd : decode bytes pc = .ok (.ifnonnull o, 3)) (pc' : Nat) (hp : pc + 3 = pc')  (k : Go p e below Q (T.setTop (mkF m pc' Ls st))) : Go p e below Q (T.setTop (mkF m pc Ls (.null :: st))) := by
  subst hp; exact Go.step (fun t k => XT.ifnonnullNo S.here C.1 rfl (C.hd hd) rfl k) k
theorem Cx.ifnullYes (C : Cx p s m meth c Z own bytes maxl ret nm) (S : St p l e R s m args below meth c Z h0 L0 T L M cells slots) {o : Int} (hd : decode bytes pc = .ok (.ifnull o, 3)) (pc' : Nat) (h1 : 0 ≤ (pc : Int) + o) (hp : ((pc : Int) + o).toNat = pc') (k : Go p e below Q (T.setTop (mkF m pc' Ls st))) : Go p e below Q (T.setTop (mkF m pc Ls (.null :: st))) := by
  exact Go.step (fun t k => XS.ifnullYes S.here C.1 rfl (pc0 := pc) (pc' := pc') rfl (C.hd hd) rfl h1 hp k) k
theorem Cx.ifnonnullYes (C : Cx p s m meth c Z own bytes maxl ret nm) (S : St p l e R s m args below meth c Z h0 L0 T L M cells slots) {o : Int} {b : Addr} (hd : decode bytes pc = .ok (.ifnonnull o, 3)) (pc' : Nat) (h1 : 0 ≤ (pc : Int) + o) (hp : ((pc : Int) + o).toNat = pc') (k : Go p e below Q (T.setTop (mkF m pc' Ls st))) : Go p e below Q (T.setTop (mkF m pc Ls (.ref b :: st))) := by
  exact Go.step (fun t k => XT.ifnonnullYes S.here C.1 rfl (pc0 := pc) (pc' := pc') rfl (C.hd hd) rfl h1 hp k) k

theorem Cx.getfield (C : Cx p s m meth c Z own bytes maxl ret nm) (S : St p l e R s m args below meth c Z h0 L0 T L M cells slots) {idx : Nat} {R0 O n d host : String} {a : Addr} {v : Value} (w : (Jvm.Cond.fieldLink own idx R0 n d).before a0 Z = true ∨ (Jvm.Cond.fieldLinkNest own idx R0 n d host).before a0 Z = true) (via : Via Z R0 O n d) (hd : decode bytes pc = .ok (.getfield idx, 3)) (F : Fld Z T.heap a O n d v) (pc' : Nat) (hp : pc + 3 = pc')
    (k : ∀ T', St p l e R s m args below meth c Z h0 L0 T' L M cells slots → Go p e below Q (T'.setTop (mkF m pc' Ls (v :: st)))) : Go p e below Q (T.setTop (mkF m pc Ls (.ref a :: st))) := by
  subst hp
  obtain ⟨s', locs, X, hZ, hown, ksame, kext, kwr⟩ := S.opn C
  obtain ⟨T', X', e', stp⟩ := getF X C.1 hZ hown w via rfl F (g := mkF m pc Ls (.ref a :: st)) rfl rfl (C.hd hd)
  exact Go.step stp (k T' (ksame T' X' e'))
theorem Cx.getstatic (C : Cx p s m meth c Z own bytes maxl ret nm) (S : St p l e R s m args below meth c Z h0 L0 T L M cells slots) {idx : Nat} {R0 O n d host : String} {v : Value} (w : (Jvm.Cond.fieldLink own idx R0 n d).before a0 Z = true ∨ (Jvm.Cond.fieldLinkNest own idx R0 n d host).before a0 Z = true) (via : Via Z R0 O n d) (hd : decode bytes pc = .ok (.getstatic idx, 3)) (F : Sta Z Z.heap O n d v) (pc' : Nat) (hp : pc + 3 = pc')
    (k : ∀ T', St p l e R s m args below meth c Z h0 L0 T' L M cells slots → Go p e below Q (T'.setTop (mkF m pc' Ls (v :: st)))) : Go p e below Q (T.setTop (mkF m pc Ls st)) := by
  subst hp
  have F' := S.oldS F
  obtain ⟨s', locs, X, hZ, hown, ksame, kext, kwr⟩ := S.opn C
  obtain ⟨T', X', e', stp⟩ := getS2 X C.1 hZ hown w via rfl F' (g := mkF m pc Ls st) rfl (C.hd hd)
  exact Go.step stp (k T' (ksame T' X' e'))
theorem Cx.putfield (C : Cx p s m meth c Z own bytes maxl ret nm) (S : St p l e R s m args below meth c Z h0 L0 T L M cells slots) {idx : Nat} {R0 O n d host K : String} {kk : Nat} {a : Addr} {v old : Value} {fs : List FV} {ty : FieldType} (w : (Jvm.Cond.fieldLink own idx R0 n d).before a0 Z = true ∨ (Jvm.Cond.fieldLinkNest own idx R0 n d host).before a0 Z = true) (via : Via Z R0 O n d) (hd : decode bytes pc = .ok (.putfield idx, 3)) (i : Nat) (hi : nth L i = some (a, Obj Z K fs)) (j : Nat) (hj : nth fs j = some (O, n, d, old))
    (lw : (Jvm.Cond.lays K O n d).before a0 Z = true ∨ ((Jvm.Cond.laysFinal K O n d).before a0 Z = true ∧ own = O ∧ nm = "<init>")) (wi : (Jvm.Cond.instantiable K kk).before a0 Z = true) (hty : parseFieldDescriptor d = some ty) (hn : narrow ty v = v) (hf : fits ty v = true) (pc' : Nat) (hp : pc + 3 = pc')
    (k : ∀ T', St p l e R s m args below meth c Z h0 L0 T' (upd L i (a, Obj Z K (upd fs j (O, n, d, v)))) M cells slots → Go p e below Q (T'.setTop (mkF m pc' Ls st))) : Go p e below Q (T.setTop (mkF m pc Ls (v :: .ref a :: st))) := by
  subst hp
  have F := S.fld i hi j hj
  have E := S.exa i hi
  obtain ⟨s', locs, X, hZ, hown, ksame, kext, kwr⟩ := S.opn C
  have lw' : (Jvm.Cond.lays K O n d).before a0 Z = true ∨ ((Jvm.Cond.laysFinal K O n d).before a0 Z = true ∧ own = O ∧ meth.name = "<init>") := lw.imp id fun q => ⟨q.1, q.2.1, C.2.2.2.2.2.2.2.trans q.2.2⟩
  obtain ⟨T', h', X', e', W, stp⟩ := putF X C.1 hZ hown w via rfl F E lw' wi hty hn hf (g := mkF m pc Ls (v :: .ref a :: st)) rfl rfl (C.hd hd)
  exact Go.step stp (k T' (kwr T' h' i a _ _ _ _ hi X' e' W fun c _ P hs => P.put hj hs))
theorem Cx.putfieldN (C : Cx p s m meth c Z own bytes maxl ret nm) (S : St p l e R s m args below meth c Z h0 L0 T L M cells slots) {idx : Nat} {R0 O n d K : String} {kk : Nat} {a : Addr} {v v' old : Value} {fs : List FV} {ty : FieldType} (w : (Jvm.Cond.fieldLink own idx R0 n d).before a0 Z = true) (via : Via Z R0 O n d) (hd : decode bytes pc = .ok (.putfield idx, 3)) (i : Nat) (hi : nth L i = some (a, Obj Z K fs)) (j : Nat) (hj : nth fs j = some (O, n, d, old))
    (lw : (Jvm.Cond.lays K O n d).before a0 Z = true ∨ ((Jvm.Cond.laysFinal K O n d).before a0 Z = true ∧ own = O ∧ nm = "<init>")) (wi : (Jvm.Cond.instantiable K kk).before a0 Z = true) (hty : parseFieldDescriptor d = some ty) (hn : narrow ty v = v') (hf : fits ty v' = true) (pc' : Nat) (hp : pc + 3 = pc')
    (k : ∀ T', St p l e R s m args below meth c Z h0 L0 T' (upd L i (a, Obj Z K (upd fs j (O, n, d, v')))) M cells slots → Go p e below Q (T'.setTop (mkF m pc' Ls st))) : Go p e below Q (T.setTop (mkF m pc Ls (v :: .ref a :: st))) := by
  subst hp
  have F := S.fld i hi j hj
  have E := S.exa i hi
  obtain ⟨s', locs, X, hZ, hown, ksame, kext, kwr⟩ := S.opn C
  have lw' : (Jvm.Cond.lays K O n d).before a0 Z = true ∨ ((Jvm.Cond.laysFinal K O n d).before a0 Z = true ∧ own = O ∧ meth.name = "<init>") := lw.imp id fun q => ⟨q.1, q.2.1, C.2.2.2.2.2.2.2.trans q.2.2⟩
  obtain ⟨T', h', X', e', W, stp⟩ := putFN X C.1 hZ hown w via rfl F E lw' wi hty hn hf (g := mkF m pc Ls (v :: .ref a :: st)) rfl rfl (C.hd hd)
  exact Go.step stp (k T' (kwr T' h' i a _ _ _ _ hi X' e' W fun c _ P hs => P.put hj hs))
theorem Cx.new (C : Cx p s m meth c Z own bytes maxl ret nm) (S : St p l e R s m args below meth c Z h0 L0 T L M cells slots) {idx : Nat} {K : String} {kk : Nat} (w : (Jvm.Cond.classLink own idx K).before a0 Z = true) (wi : (Jvm.Cond.instantiable K kk).before a0 Z = true) (wz : (Jvm.Cond.initialized K).before a0 Z = true) (hd : decode bytes pc = .ok (.new idx, 3)) {fs : List FT} (hl : LaidAll Z a0 K fs) (hnd : (fs.map (·.2.1)).Nodup) (pc' : Nat) (hp : pc + 3 = pc')
    (hc : cells + 1 ≤ R.cells) (hs : slots + kk ≤ R.slots) (k : ∀ T' b, St p l e R s m args below meth c Z h0 L0 T' (L ++ [(b, Obj Z K (fresh fs))]) M (cells + 1) (slots + kk) → Go p e below Q (T'.setTop (mkF m pc' Ls (.ref b :: st)))) : Go p e below Q (T.setTop (mkF m pc Ls st)) := by
  subst hp
  obtain ⟨s', locs, X, hZ, hown, ksame, kext, kwr⟩ := S.opn C
  obtain ⟨T', h', X', e', E, A, D, ⟨cell, v1, v2, -⟩, stp⟩ := newO X C.1 hZ hown w wi wz rfl (g := mkF m pc Ls st) rfl (C.hd hd) hc hs
  exact Go.step stp (k T' T.heap.size (kext T' h' _ _ _ X' e' E (obj_new hl hnd A ⟨cell, v1, v2⟩ D)))
theorem Cx.newarray (C : Cx p s m meth c Z own bytes maxl ret nm) (S : St p l e R s m args below meth c Z h0 L0 T L M cells slots) {aty : ArrayType} {n : Int32} (w : (Jvm.Cond.arrayClass (newarray.typeOf aty)).before a0 Z = true) (hd : decode bytes pc = .ok (.newarray aty, 2)) (pc' : Nat) (hp : pc + 2 = pc') (hn : ¬ n < 0) (N : Nat) (hN : n.toNatClampNeg = N) (cap : Nat) (hcap : N ≤ cap) (hb : cap * 8 ≤ 536870912)
    (hc : cells + 1 ≤ R.cells) (hs : slots + cap ≤ R.slots) (k : ∀ T' b, St p l e R s m args below meth c Z h0 L0 T' (L ++ [(b, Ary Z (newarray.typeOf aty) (List.replicate N (defaultValue (newarray.typeOf aty))))]) M (cells + 1) (slots + cap) → Go p e below Q (T'.setTop (mkF m pc' Ls (.ref b :: st)))) : Go p e below Q (T.setTop (mkF m pc Ls (.int n :: st))) := by
  subst hp hN
  obtain ⟨s', locs, X, hZ, hown, ksame, kext, kwr⟩ := S.opn C
  obtain ⟨T', h', cA, X', e', E, A, stp⟩ := newP X C.1 hZ w rfl (g := mkF m pc Ls (.int n :: st)) rfl (C.hd hd) rfl hn hcap hb hc hs
  exact Go.step stp (k T' T.heap.size (kext T' h' _ _ _ X' e' E ⟨_, A.1, ary_new A⟩))
theorem Cx.anewarray (C : Cx p s m meth c Z own bytes maxl ret nm) (S : St p l e R s m args below meth c Z h0 L0 T L M cells slots) {idx : Nat} {K : String} {n : Int32} (w1 : (Jvm.Cond.classLink own idx K).before a0 Z = true) (w2 : (Jvm.Cond.arrayOver (.object K)).before a0 Z = true) (hd : decode bytes pc = .ok (.anewarray idx, 3)) (pc' : Nat) (hp : pc + 3 = pc') (hn : ¬ n < 0) (N : Nat) (hN : n.toNatClampNeg = N) (cap : Nat) (hcap : N ≤ cap) (hb : cap * 8 ≤ 536870912)
    (hc : cells + 1 ≤ R.cells) (hs : slots + cap ≤ R.slots) (k : ∀ T' b, St p l e R s m args below meth c Z h0 L0 T' (L ++ [(b, AryR Z K (List.replicate N .null))]) M (cells + 1) (slots + cap) → Go p e below Q (T'.setTop (mkF m pc' Ls (.ref b :: st)))) : Go p e below Q (T.setTop (mkF m pc Ls (.int n :: st))) := by
  subst hp hN
  obtain ⟨s', locs, X, hZ, hown, ksame, kext, kwr⟩ := S.opn C
  obtain ⟨T', h', cA, X', e', E, A, V, stp⟩ := newR X C.1 hZ hown w1 w2 rfl (g := mkF m pc Ls (.int n :: st)) rfl (C.hd hd) rfl hn hcap hb hc hs
  exact Go.step stp (k T' T.heap.size (kext T' h' _ _ _ X' e' E ⟨_, A.1, ary_new A, V⟩))
theorem Cx.arraylength (C : Cx p s m meth c Z own bytes maxl ret nm) (S : St p l e R s m args below meth c Z h0 L0 T L M cells slots) {a : Addr} {ty : FieldType} {vs : List Value} (A : ∃ cl, T.heap[a]? = some cl ∧ Ary Z ty vs cl) (hd : decode bytes pc = .ok (.arraylength, 1)) (pc' : Nat) (hp : pc + 1 = pc') (n : Int32) (hn : vs.length.toInt32 = n)
    (k : Go p e below Q (T.setTop (mkF m pc' Ls (.int n :: st)))) : Go p e below Q (T.setTop (mkF m pc Ls (.ref a :: st))) := by
  subst hp hn
  obtain ⟨s', locs, X, hZ, hown, ksame, kext, kwr⟩ := S.opn C
  obtain ⟨cl, h1, A⟩ := A
  rw [← A.size] at k
  exact Go.step (X.arraylength C.1 h1 (State.isArrayOf_alike hZ.alike A.1.1) (g := mkF m pc Ls (.ref a :: st)) rfl rfl (C.hd hd)) k

theorem Cx.iaload (C : Cx p s m meth c Z own bytes maxl ret nm) (S : St p l e R s m args below meth c Z h0 L0 T L M cells slots) {a : Addr} {vs : List Value} {x : Int32} {v : Value} (A : ∃ cl, T.heap[a]? = some cl ∧ Ary Z .int vs cl) (hd : decode bytes pc = .ok (.iaload, 1)) (pc' : Nat) (hp : pc + 1 = pc') (hx : ¬ x < 0) (j : Nat) (hj : x.toNatClampNeg = j) (hv : nth vs j = some v) (k : Go p e below Q (T.setTop (mkF m pc' Ls (v :: st)))) : Go p e below Q (T.setTop (mkF m pc Ls (.int x :: .ref a :: st))) := by
  subst hp
  obtain ⟨s', locs, X, hZ, hown, ksame, kext, kwr⟩ := S.opn C
  obtain ⟨cl, h1, A⟩ := A
  exact Go.step (X.iaload C.1 h1 (State.isArrayOf_alike hZ.alike A.1.1) A.1.2 (in_of A.size hx hj (nth_lt hv)) (by rw [hj]; exact A.get hv) (g := mkF m pc Ls (.int x :: .ref a :: st)) rfl rfl (C.hd hd)) k
theorem Cx.laload (C : Cx p s m meth c Z own bytes maxl ret nm) (S : St p l e R s m args below meth c Z h0 L0 T L M cells slots) {a : Addr} {vs : List Value} {x : Int32} {v : Value} (A : ∃ cl, T.heap[a]? = some cl ∧ Ary Z .long vs cl) (hd : decode bytes pc = .ok (.laload, 1)) (pc' : Nat) (hp : pc + 1 = pc') (hx : ¬ x < 0) (j : Nat) (hj : x.toNatClampNeg = j) (hv : nth vs j = some v) (k : Go p e below Q (T.setTop (mkF m pc' Ls (v :: st)))) : Go p e below Q (T.setTop (mkF m pc Ls (.int x :: .ref a :: st))) := by
  subst hp
  obtain ⟨s', locs, X, hZ, hown, ksame, kext, kwr⟩ := S.opn C
  obtain ⟨cl, h1, A⟩ := A
  exact Go.step (X.laload C.1 h1 (State.isArrayOf_alike hZ.alike A.1.1) A.1.2 (in_of A.size hx hj (nth_lt hv)) (by rw [hj]; exact A.get hv) (g := mkF m pc Ls (.int x :: .ref a :: st)) rfl rfl (C.hd hd)) k
theorem Cx.caload (C : Cx p s m meth c Z own bytes maxl ret nm) (S : St p l e R s m args below meth c Z h0 L0 T L M cells slots) {a : Addr} {vs : List Value} {x : Int32} {v : Value} (A : ∃ cl, T.heap[a]? = some cl ∧ Ary Z .char vs cl) (hd : decode bytes pc = .ok (.caload, 1)) (pc' : Nat) (hp : pc + 1 = pc') (hx : ¬ x < 0) (j : Nat) (hj : x.toNatClampNeg = j) (hv : nth vs j = some v) (k : Go p e below Q (T.setTop (mkF m pc' Ls (v :: st)))) : Go p e below Q (T.setTop (mkF m pc Ls (.int x :: .ref a :: st))) := by
  subst hp
  obtain ⟨s', locs, X, hZ, hown, ksame, kext, kwr⟩ := S.opn C
  obtain ⟨cl, h1, A⟩ := A
  exact Go.step (X.caload C.1 h1 (State.isArrayOf_alike hZ.alike A.1.1) A.1.2 (in_of A.size hx hj (nth_lt hv)) (by rw [hj]; exact A.get hv) (g := mkF m pc Ls (.int x :: .ref a :: st)) rfl rfl (C.hd hd)) k
theorem Cx.saload (C : Cx p s m meth c Z own bytes maxl ret nm) (S : St p l e R s m args below meth c Z h0 L0 T L M cells slots) {a : Addr} {vs : List Value} {x : Int32} {v : Value} (A : ∃ cl, T.heap[a]? = some cl ∧ Ary Z .short vs cl) (hd : decode bytes pc = .ok (.saload, 1)) (pc' : Nat) (hp : pc + 1 = pc') (hx : ¬ x < 0) (j : Nat) (hj : x.toNatClampNeg = j) (hv : nth vs j = some v) (k : Go p e below Q (T.setTop (mkF m pc' Ls (v :: st)))) : Go p e below Q (T.setTop (mkF m pc Ls (.int x :: .ref a :: st))) := by
  subst hp
  obtain ⟨s', locs, X, hZ, hown, ksame, kext, kwr⟩ := S.opn C
  obtain ⟨cl, h1, A⟩ := A
  exact Go.step (X.saload C.1 h1 (State.isArrayOf_alike hZ.alike A.1.1) A.1.2 (in_of A.size hx hj (nth_lt hv)) (by rw [hj]; exact A.get hv) (g := mkF m pc Ls (.int x :: .ref a :: st)) rfl rfl (C.hd hd)) k
theorem Cx.baload (C : Cx p s m meth c Z own bytes maxl ret nm) (S : St p l e R s m args below meth c Z h0 L0 T L M cells slots) {a : Addr} {vs : List Value} {x : Int32} {v : Value} (A : ∃ cl, T.heap[a]? = some cl ∧ Ary Z .byte vs cl) (hd : decode bytes pc = .ok (.baload, 1)) (pc' : Nat) (hp : pc + 1 = pc') (hx : ¬ x < 0) (j : Nat) (hj : x.toNatClampNeg = j) (hv : nth vs j = some v) (k : Go p e below Q (T.setTop (mkF m pc' Ls (v :: st)))) : Go p e below Q (T.setTop (mkF m pc Ls (.int x :: .ref a :: st))) := by
  subst hp
  obtain ⟨s', locs, X, hZ, hown, ksame, kext, kwr⟩ := S.opn C
  obtain ⟨cl, h1, A⟩ := A
  exact Go.step (X.baloadBytes C.1 h1 (State.isArrayOf_alike hZ.alike A.1.1) A.1.2 (in_of A.size hx hj (nth_lt hv)) (by rw [hj]; exact A.get hv) (g := mkF m pc Ls (.int x :: .ref a :: st)) rfl rfl (C.hd hd)) k
theorem Cx.zaload (C : Cx p s m meth c Z own bytes maxl ret nm) (S : St p l e R s m args below meth c Z h0 L0 T L M cells slots) {a : Addr} {vs : List Value} {x : Int32} {v : Value} (A : ∃ cl, T.heap[a]? = some cl ∧ Ary Z .boolean vs cl) (hd : decode bytes pc = .ok (.baload, 1)) (pc' : Nat) (hp : pc + 1 = pc') (hx : ¬ x < 0) (j : Nat) (hj : x.toNatClampNeg = j) (hv : nth vs j = some v) (k : Go p e below Q (T.setTop (mkF m pc' Ls (v :: st)))) : Go p e below Q (T.setTop (mkF m pc Ls (.int x :: .ref a :: st))) := by
  subst hp
  obtain ⟨s', locs, X, hZ, hown, ksame, kext, kwr⟩ := S.opn C
  obtain ⟨cl, h1, A⟩ := A
  exact Go.step (X.baloadBooleans C.1 h1 (State.isArrayOf_alike hZ.alike A.1.1) A.1.2 (in_of A.size hx hj (nth_lt hv)) (by rw [hj]; exact A.get hv) (g := mkF m pc Ls (.int x :: .ref a :: st)) rfl rfl (C.hd hd)) k
theorem Cx.aaload (C : Cx p s m meth c Z own bytes maxl ret nm) (S : St p l e R s m args below meth c Z h0 L0 T L M cells slots) {a : Addr} {ty : FieldType} {vs : List Value} {x : Int32} {v : Value} (A : ∃ cl, T.heap[a]? = some cl ∧ Ary Z ty vs cl) (ht : ty.isReference = true) (hd : decode bytes pc = .ok (.aaload, 1)) (pc' : Nat) (hp : pc + 1 = pc') (hx : ¬ x < 0) (j : Nat) (hj : x.toNatClampNeg = j) (hv : nth vs j = some v) (k : Go p e below Q (T.setTop (mkF m pc' Ls (v :: st)))) : Go p e below Q (T.setTop (mkF m pc Ls (.int x :: .ref a :: st))) := by
  subst hp
  obtain ⟨s', locs, X, hZ, hown, ksame, kext, kwr⟩ := S.opn C
  obtain ⟨cl, h1, A⟩ := A
  exact Go.step (X.aaload C.1 h1 (State.isArrayOf_alike hZ.alike A.1.1) ht A.1.2 (in_of A.size hx hj (nth_lt hv)) (by rw [hj]; exact A.get hv) (g := mkF m pc Ls (.int x :: .ref a :: st)) rfl rfl (C.hd hd)) k
theorem Cx.iastore (C : Cx p s m meth c Z own bytes maxl ret nm) (S : St p l e R s m args below meth c Z h0 L0 T L M cells slots) {a : Addr} {vs : List Value} {y : Int32} {x : Int32} (i : Nat) (hi : nth L i = some (a, Ary Z .int vs)) (hd : decode bytes pc = .ok (.iastore, 1)) (pc' : Nat) (hp : pc + 1 = pc') (hx : ¬ y < 0) (j : Nat) (hj : y.toNatClampNeg = j) (hl : j < vs.length) (z : Int32) (hz : x = z) (k : ∀ T', St p l e R s m args below meth c Z h0 L0 T' (upd L i (a, Ary Z .int (upd vs j (.int z)))) M cells slots → Go p e below Q (T'.setTop (mkF m pc' Ls st))) : Go p e below Q (T.setTop (mkF m pc Ls (.int x :: .int y :: .ref a :: st))) := by
  subst hp hz
  obtain ⟨cl, h1, A⟩ := S.at i hi
  obtain ⟨s', locs, X, hZ, hown, ksame, kext, kwr⟩ := S.opn C
  obtain ⟨T', h', X', e', W, stp⟩ := stI X C.1 hZ rfl (A.arr h1) (in_of A.size hx hj hl) (g := mkF m pc Ls (.int x :: .int y :: .ref a :: st)) rfl rfl (C.hd hd)
  exact Go.step stp (k T' (kwr T' h' i a _ _ _ _ hi X' e' W fun c _ P _ => by rw [hj]; exact P.put (rfl)))
theorem Cx.lastore (C : Cx p s m meth c Z own bytes maxl ret nm) (S : St p l e R s m args below meth c Z h0 L0 T L M cells slots) {a : Addr} {vs : List Value} {y : Int32} {x : Int64} (i : Nat) (hi : nth L i = some (a, Ary Z .long vs)) (hd : decode bytes pc = .ok (.lastore, 1)) (pc' : Nat) (hp : pc + 1 = pc') (hx : ¬ y < 0) (j : Nat) (hj : y.toNatClampNeg = j) (hl : j < vs.length) (z : Int64) (hz : x = z) (k : ∀ T', St p l e R s m args below meth c Z h0 L0 T' (upd L i (a, Ary Z .long (upd vs j (.long z)))) M cells slots → Go p e below Q (T'.setTop (mkF m pc' Ls st))) : Go p e below Q (T.setTop (mkF m pc Ls (.long x :: .int y :: .ref a :: st))) := by
  subst hp hz
  obtain ⟨cl, h1, A⟩ := S.at i hi
  obtain ⟨s', locs, X, hZ, hown, ksame, kext, kwr⟩ := S.opn C
  obtain ⟨T', h', X', e', W, stp⟩ := stJ X C.1 hZ rfl (A.arr h1) (in_of A.size hx hj hl) (g := mkF m pc Ls (.long x :: .int y :: .ref a :: st)) rfl rfl (C.hd hd)
  exact Go.step stp (k T' (kwr T' h' i a _ _ _ _ hi X' e' W fun c _ P _ => by rw [hj]; exact P.put (rfl)))
theorem Cx.castore (C : Cx p s m meth c Z own bytes maxl ret nm) (S : St p l e R s m args below meth c Z h0 L0 T L M cells slots) {a : Addr} {vs : List Value} {y : Int32} {x : Int32} (i : Nat) (hi : nth L i = some (a, Ary Z .char vs)) (hd : decode bytes pc = .ok (.castore, 1)) (pc' : Nat) (hp : pc + 1 = pc') (hx : ¬ y < 0) (j : Nat) (hj : y.toNatClampNeg = j) (hl : j < vs.length) (z : Int32) (hz : nar .char x = z) (k : ∀ T', St p l e R s m args below meth c Z h0 L0 T' (upd L i (a, Ary Z .char (upd vs j (.int z)))) M cells slots → Go p e below Q (T'.setTop (mkF m pc' Ls st))) : Go p e below Q (T.setTop (mkF m pc Ls (.int x :: .int y :: .ref a :: st))) := by
  subst hp hz
  obtain ⟨cl, h1, A⟩ := S.at i hi
  obtain ⟨s', locs, X, hZ, hown, ksame, kext, kwr⟩ := S.opn C
  obtain ⟨T', h', X', e', W, stp⟩ := stC X C.1 hZ rfl (A.arr h1) (in_of A.size hx hj hl) (g := mkF m pc Ls (.int x :: .int y :: .ref a :: st)) rfl rfl (C.hd hd)
  exact Go.step stp (k T' (kwr T' h' i a _ _ _ _ hi X' e' W fun c _ P _ => by rw [hj]; exact P.put (fits_nar_char _)))
theorem Cx.sastore (C : Cx p s m meth c Z own bytes maxl ret nm) (S : St p l e R s m args below meth c Z h0 L0 T L M cells slots) {a : Addr} {vs : List Value} {y : Int32} {x : Int32} (i : Nat) (hi : nth L i = some (a, Ary Z .short vs)) (hd : decode bytes pc = .ok (.sastore, 1)) (pc' : Nat) (hp : pc + 1 = pc') (hx : ¬ y < 0) (j : Nat) (hj : y.toNatClampNeg = j) (hl : j < vs.length) (z : Int32) (hz : nar .short x = z) (k : ∀ T', St p l e R s m args below meth c Z h0 L0 T' (upd L i (a, Ary Z .short (upd vs j (.int z)))) M cells slots → Go p e below Q (T'.setTop (mkF m pc' Ls st))) : Go p e below Q (T.setTop (mkF m pc Ls (.int x :: .int y :: .ref a :: st))) := by
  subst hp hz
  obtain ⟨cl, h1, A⟩ := S.at i hi
  obtain ⟨s', locs, X, hZ, hown, ksame, kext, kwr⟩ := S.opn C
  obtain ⟨T', h', X', e', W, stp⟩ := stS X C.1 hZ rfl (A.arr h1) (in_of A.size hx hj hl) (g := mkF m pc Ls (.int x :: .int y :: .ref a :: st)) rfl rfl (C.hd hd)
  exact Go.step stp (k T' (kwr T' h' i a _ _ _ _ hi X' e' W fun c _ P _ => by rw [hj]; exact P.put (fits_nar_short _)))
theorem Cx.bastore (C : Cx p s m meth c Z own bytes maxl ret nm) (S : St p l e R s m args below meth c Z h0 L0 T L M cells slots) {a : Addr} {vs : List Value} {y : Int32} {x : Int32} (i : Nat) (hi : nth L i = some (a, Ary Z .byte vs)) (hd : decode bytes pc = .ok (.bastore, 1)) (pc' : Nat) (hp : pc + 1 = pc') (hx : ¬ y < 0) (j : Nat) (hj : y.toNatClampNeg = j) (hl : j < vs.length) (z : Int32) (hz : nar .byte x = z) (k : ∀ T', St p l e R s m args below meth c Z h0 L0 T' (upd L i (a, Ary Z .byte (upd vs j (.int z)))) M cells slots → Go p e below Q (T'.setTop (mkF m pc' Ls st))) : Go p e below Q (T.setTop (mkF m pc Ls (.int x :: .int y :: .ref a :: st))) := by
  subst hp hz
  obtain ⟨cl, h1, A⟩ := S.at i hi
  obtain ⟨s', locs, X, hZ, hown, ksame, kext, kwr⟩ := S.opn C
  obtain ⟨T', h', X', e', W, stp⟩ := stB X C.1 hZ rfl (A.arr h1) (in_of A.size hx hj hl) (g := mkF m pc Ls (.int x :: .int y :: .ref a :: st)) rfl rfl (C.hd hd)
  exact Go.step stp (k T' (kwr T' h' i a _ _ _ _ hi X' e' W fun c _ P _ => by rw [hj]; exact P.put (fits_nar_byte _)))
theorem Cx.zastore (C : Cx p s m meth c Z own bytes maxl ret nm) (S : St p l e R s m args below meth c Z h0 L0 T L M cells slots) {a : Addr} {vs : List Value} {y : Int32} {x : Int32} (i : Nat) (hi : nth L i = some (a, Ary Z .boolean vs)) (hd : decode bytes pc = .ok (.bastore, 1)) (pc' : Nat) (hp : pc + 1 = pc') (hx : ¬ y < 0) (j : Nat) (hj : y.toNatClampNeg = j) (hl : j < vs.length) (z : Int32) (hz : nar .boolean x = z) (k : ∀ T', St p l e R s m args below meth c Z h0 L0 T' (upd L i (a, Ary Z .boolean (upd vs j (.int z)))) M cells slots → Go p e below Q (T'.setTop (mkF m pc' Ls st))) : Go p e below Q (T.setTop (mkF m pc Ls (.int x :: .int y :: .ref a :: st))) := by
  subst hp hz
  obtain ⟨cl, h1, A⟩ := S.at i hi
  obtain ⟨s', locs, X, hZ, hown, ksame, kext, kwr⟩ := S.opn C
  obtain ⟨T', h', X', e', W, stp⟩ := stZ X C.1 hZ rfl (A.arr h1) (in_of A.size hx hj hl) (g := mkF m pc Ls (.int x :: .int y :: .ref a :: st)) rfl rfl (C.hd hd)
  exact Go.step stp (k T' (kwr T' h' i a _ _ _ _ hi X' e' W fun c _ P _ => by rw [hj]; exact P.put (fits_nar_bool _)))

theorem St.sto (S : St p l e R s m args below meth c Z h0 L0 T L M cells slots) {a b : Addr} {K C' : String} {vs : List Value} (i : Nat) (hi : nth L i = some (a, AryR Z K vs)) (E : Exa Z T.heap b C') (w : C' = K ∨ (Jvm.Cond.castable C' K).before a0 Z = true) : Sto Z T.heap a (.ref b) := by
  obtain ⟨cl, h1, A, V⟩ := S.at i hi
  refine Sto.of (A.arr h1) V (w.elim (fun q => q ▸ Ins.self E) fun q => Ins.of_exa E q)
theorem Cx.aastore (C : Cx p s m meth c Z own bytes maxl ret nm) (S : St p l e R s m args below meth c Z h0 L0 T L M cells slots) {a : Addr} {K : String} {vs : List Value} {y : Int32} {v : Value} (i : Nat) (hi : nth L i = some (a, AryR Z K vs)) (F : Sto Z T.heap a v) (hf : v.isRef = true) (hd : decode bytes pc = .ok (.aastore, 1)) (pc' : Nat) (hp : pc + 1 = pc') (hx : ¬ y < 0) (j : Nat) (hj : y.toNatClampNeg = j) (hl : j < vs.length)
    (k : ∀ T', St p l e R s m args below meth c Z h0 L0 T' (upd L i (a, AryR Z K (upd vs j v))) M cells slots → Go p e below Q (T'.setTop (mkF m pc' Ls st))) : Go p e below Q (T.setTop (mkF m pc Ls (v :: .int y :: .ref a :: st))) := by
  subst hp
  obtain ⟨cl, h1, A, V⟩ := S.at i hi
  obtain ⟨s', locs, X, hZ, hown, ksame, kext, kwr⟩ := S.opn C
  obtain ⟨T', h', X', e', W, stp⟩ := stR X C.1 hZ rfl (A.arr h1) (in_of A.size hx hj hl) rfl F (g := mkF m pc Ls (v :: .int y :: .ref a :: st)) rfl rfl (C.hd hd)
  have hfit : fits (.object K) v = true := by rcases ref_cases hf with rfl | ⟨_, rfl⟩ <;> rfl
  exact Go.step stp (k T' (kwr T' h' i a _ _ _ _ hi X' e' W fun c _ P _ => by rw [hj]; exact ⟨P.1.put hfit, P.2⟩))
theorem Cx.checkcast (C : Cx p s m meth c Z own bytes maxl ret nm) (S : St p l e R s m args below meth c Z h0 L0 T L M cells slots) {idx : Nat} {K : String} {a : Addr} (w : (Jvm.Cond.classLink own idx K).before a0 Z = true) (I : Ins Z T.heap a K true) (hd : decode bytes pc = .ok (.checkcast idx, 3)) (pc' : Nat) (hp : pc + 3 = pc')
    (k : ∀ T', St p l e R s m args below meth c Z h0 L0 T' L M cells slots → Go p e below Q (T'.setTop (mkF m pc' Ls (.ref a :: st)))) : Go p e below Q (T.setTop (mkF m pc Ls (.ref a :: st))) := by
  subst hp
  obtain ⟨s', locs, X, hZ, hown, ksame, kext, kwr⟩ := S.opn C
  obtain ⟨T', X', e', stp⟩ := castY X C.1 hZ hown w rfl I (g := mkF m pc Ls (.ref a :: st)) rfl rfl (C.hd hd)
  exact Go.step stp (k T' (ksame T' X' e'))
theorem Cx.instanceof (C : Cx p s m meth c Z own bytes maxl ret nm) (S : St p l e R s m args below meth c Z h0 L0 T L M cells slots) {idx : Nat} {K : String} {a : Addr} (w : (Jvm.Cond.classLink own idx K).before a0 Z = true) (I : Ins Z T.heap a K true) (hd : decode bytes pc = .ok (.instanceof idx, 3)) (pc' : Nat) (hp : pc + 3 = pc')
    (k : ∀ T', St p l e R s m args below meth c Z h0 L0 T' L M cells slots → Go p e below Q (T'.setTop (mkF m pc' Ls (.int 1 :: st)))) : Go p e below Q (T.setTop (mkF m pc Ls (.ref a :: st))) := by
  subst hp
  obtain ⟨s', locs, X, hZ, hown, ksame, kext, kwr⟩ := S.opn C
  obtain ⟨T', X', e', stp⟩ := instY X C.1 hZ hown w rfl I (g := mkF m pc Ls (.ref a :: st)) rfl rfl (C.hd hd)
  exact Go.step stp (k T' (ksame T' X' e'))
theorem Cx.checkcastNull (C : Cx p s m meth c Z own bytes maxl ret nm) (S : St p l e R s m args below meth c Z h0 L0 T L M cells slots) {idx : Nat} (hd : decode bytes pc = .ok (.checkcast idx, 3)) (pc' : Nat) (hp : pc + 3 = pc') (k : Go p e below Q (T.setTop (mkF m pc' Ls (.null :: st)))) : Go p e below Q (T.setTop (mkF m pc Ls (.null :: st))) := by
  subst hp
  obtain ⟨s', locs, X, hZ, hown, ksame, kext, kwr⟩ := S.opn C
  exact Go.step (X.checkcastNull C.1 (g := mkF m pc Ls (.null :: st)) rfl rfl (C.hd hd)) k
theorem Cx.instanceofNull (C : Cx p s m meth c Z own bytes maxl ret nm) (S : St p l e R s m args below meth c Z h0 L0 T L M cells slots) {idx : Nat} (hd : decode bytes pc = .ok (.instanceof idx, 3)) (pc' : Nat) (hp : pc + 3 = pc') (k : Go p e below Q (T.setTop (mkF m pc' Ls (.int 0 :: st)))) : Go p e below Q (T.setTop (mkF m pc Ls (.null :: st))) := by
  subst hp
  obtain ⟨s', locs, X, hZ, hown, ksame, kext, kwr⟩ := S.opn C
  exact Go.step (X.instanceofNull C.1 (g := mkF m pc Ls (.null :: st)) rfl rfl (C.hd hd)) k
theorem Cx.objInit (C : Cx p s m meth c Z own bytes maxl ret nm) (S : St p l e R s m args below meth c Z h0 L0 T L M cells slots) {idx : Nat} {a : Addr} (w1 : (Jvm.Cond.methodLink own idx Lib.objectInit).before a0 Z = true) (w2 : (Jvm.Cond.instanceMethod Lib.objectInit).before a0 Z = true) (w3 : (Jvm.Cond.code Lib.objectInit ⟨#[0xb1]⟩ 1 none).before a0 Z = true) (hd : decode bytes pc = .ok (.invokespecial idx, 3)) (pc' : Nat) (hp : pc + 3 = pc') (hz : Ls.size = maxl)
    (hf : 1 ≤ R.frames) (hl : (st.map fun v => v.category).sum + 12 ≤ R.locals) (k : ∀ T', St p l e R s m args below meth c Z h0 L0 T' L M cells slots → Go p e below Q (T'.setTop (mkF m pc' Ls st))) : Go p e below Q (T.setTop (mkF m pc Ls (.ref a :: st))) := by
  subst hp
  obtain ⟨s', locs, X, hZ, hown, ksame, kext, kwr⟩ := S.opn C
  obtain ⟨T', X', e', stp⟩ := initO X C.1 hZ hown w1 w2 w3 rfl (g := mkF m pc Ls (.ref a :: st)) rfl (hz.trans C.2.2.1.symm) rfl (C.hd hd) hf (W := (st.map fun v => v.category).sum) (by show 2 * 0 + _ ≤ _; omega) hl
  exact Go.step stp (k T' (ksame T' X' e'))
theorem Cx.ldcInt (C : Cx p s m meth c Z own bytes maxl ret nm) (S : St p l e R s m args below meth c Z h0 L0 T L M cells slots) {idx : Nat} {v : Int32} (w : (Jvm.Cond.constant own idx v).before a0 Z = true) (hd : decode bytes pc = .ok (.ldc idx, 2)) (pc' : Nat) (hp : pc + 2 = pc') (k : Go p e below Q (T.setTop (mkF m pc' Ls (.int v :: st)))) : Go p e below Q (T.setTop (mkF m pc Ls st)) := by
  subst hp
  obtain ⟨s', locs, X, hZ, hown, ksame, kext, kwr⟩ := S.opn C
  exact Go.step (fun t k => X.ldcI C.1 hown (mvT hZ w) (g := mkF m pc Ls st) rfl (C.hd hd) k) k
theorem Cx.ldcIntW (C : Cx p s m meth c Z own bytes maxl ret nm) (S : St p l e R s m args below meth c Z h0 L0 T L M cells slots) {idx : Nat} {v : Int32} (w : (Jvm.Cond.constant own idx v).before a0 Z = true) (hd : decode bytes pc = .ok (.ldc_w idx, 3)) (pc' : Nat) (hp : pc + 3 = pc') (k : Go p e below Q (T.setTop (mkF m pc' Ls (.int v :: st)))) : Go p e below Q (T.setTop (mkF m pc Ls st)) := by
  subst hp
  obtain ⟨s', locs, X, hZ, hown, ksame, kext, kwr⟩ := S.opn C
  exact Go.step (fun t k => X.ldcWI C.1 hown (mvT hZ w) (g := mkF m pc Ls st) rfl (C.hd hd) k) k
theorem Cx.ldc2 (C : Cx p s m meth c Z own bytes maxl ret nm) (S : St p l e R s m args below meth c Z h0 L0 T L M cells slots) {idx : Nat} {v : Int64} (w : (Jvm.Cond.constantLong own idx v).before a0 Z = true) (hd : decode bytes pc = .ok (.ldc2_w idx, 3)) (pc' : Nat) (hp : pc + 3 = pc') (k : Go p e below Q (T.setTop (mkF m pc' Ls (.long v :: st)))) : Go p e below Q (T.setTop (mkF m pc Ls st)) := by
  subst hp
  obtain ⟨s', locs, X, hZ, hown, ksame, kext, kwr⟩ := S.opn C
  exact Go.step (fun t k => X.ldc2J C.1 hown (mvT hZ w) (g := mkF m pc Ls st) rfl (C.hd hd) k) k


theorem ret_fin {Rel : Option Value → HL → HL → Prop} {v : Option Value} {t : State} (C : Cx p s m meth c Z own bytes maxl ret nm) (S : St p l e R s m args below meth c Z h0 L0 T L M cells slots) (hv : ret = none → v = none) (is : List Nat) {L1 : HL} (hp : OwnK.pick L is = L1) (his : is.Nodup) (js : List Nat) {M1 : HL} (hpm : OwnK.pick M js = M1) (hro : ∀ x ∈ M1, RoN Z h0 x.1) (hr : Rel v L1 M1) (ha : (adr L1).take L0.length = adr L0) (hc : cells ≤ R.cells) (hs : slots ≤ R.slots)
    (k : ∀ fs, (∀ (f : JFrame) (acts : List Action), f.method = m → f.locked = none → f.entered = [] → (doReturn e (T.setTop f) acts v).1 = T.setFrames fs) → Steps p.tables e below t (T.setFrames fs)) : Go p e below (Qw R s Z h0 L0 Rel) t := by
  have S2 := S.pick is js hp hpm his
  obtain ⟨locs, X, N, O, K, G, q⟩ := S2
  obtain ⟨fs, hl, hrun, hended, hW, hsame⟩ := X.leave (v := v) (fun q => hv (C.2.2.2.2.1 ▸ q)) C.2.2.2.2.2.1
  exact ⟨_, _, k fs hl, hrun, hended, v, locs, rfl, ⟨N, O, K, L1, M1, hr, ha, G, fun x hx => ⟨(q x hx).1, (q x hx).2, hro x hx⟩⟩, ⟨_, rfl⟩, hW, hsame.mono hc hs⟩

theorem Cx.retV {Rel : Option Value → HL → HL → Prop}  (C : Cx p s m meth c Z own bytes maxl none nm) (S : St p l e R s m args below meth c Z h0 L0 T L M cells slots) (hd : decode bytes pc = .ok (.return_, 1)) (is : List Nat) {L1 : HL} (hp : OwnK.pick L is = L1) (his : is.Nodup) (js : List Nat) {M1 : HL} (hpm : OwnK.pick M js = M1) (hro : ∀ x ∈ M1, RoN Z h0 x.1) (hr : Rel none L1 M1) (ha : (adr L1).take L0.length = adr L0) (hc : cells ≤ R.cells) (hs : slots ≤ R.slots) :
    Go p e below (Qw R s Z h0 L0 Rel) (T.setTop (mkF m pc Ls [])) :=
  ret_fin C S (fun q => rfl) is hp his js hpm hro hr ha hc hs fun fs hl => by
    obtain ⟨s', locs, X, hZ, hown, ksame, kext, kwr⟩ := S.opn C
    exact X.returnOut C.1 C.2.2.2.2.1 (C.hd hd) hl
theorem Cx.retA {Rel : Option Value → HL → HL → Prop} {t : FieldType} {v : Value} (C : Cx p s m meth c Z own bytes maxl (some t) nm) (S : St p l e R s m args below meth c Z h0 L0 T L M cells slots) (ht : t.isReference = true) (hv : v.isRef = true) (hd : decode bytes pc = .ok (.areturn, 1)) (is : List Nat) {L1 : HL} (hp : OwnK.pick L is = L1) (his : is.Nodup) (js : List Nat) {M1 : HL} (hpm : OwnK.pick M js = M1) (hro : ∀ x ∈ M1, RoN Z h0 x.1) (hr : Rel (some v) L1 M1) (ha : (adr L1).take L0.length = adr L0) (hc : cells ≤ R.cells) (hs : slots ≤ R.slots) :
    Go p e below (Qw R s Z h0 L0 Rel) (T.setTop (mkF m pc Ls (v :: st))) :=
  ret_fin C S (fun q => nomatch q) is hp his js hpm hro hr ha hc hs fun fs hl => by
    obtain ⟨s', locs, X, hZ, hown, ksame, kext, kwr⟩ := S.opn C
    have hn : narrow t v = v := by cases t <;> first | rfl | (simp [FieldType.isReference] at ht)
    exact retOut X C.1 C.2.2.2.2.1 hn (Or.inr (Or.inr (Or.inr (Or.inr ⟨rfl, ht, hv⟩)))) (C.hd hd) hl
theorem Cx.retI {Rel : Option Value → HL → HL → Prop} {z : Int32} (C : Cx p s m meth c Z own bytes maxl (some .int) nm) (S : St p l e R s m args below meth c Z h0 L0 T L M cells slots) (hd : decode bytes pc = .ok (.ireturn, 1)) (is : List Nat) {L1 : HL} (hp : OwnK.pick L is = L1) (his : is.Nodup) (js : List Nat) {M1 : HL} (hpm : OwnK.pick M js = M1) (hro : ∀ x ∈ M1, RoN Z h0 x.1) (hr : Rel (some (.int z)) L1 M1) (ha : (adr L1).take L0.length = adr L0) (hc : cells ≤ R.cells) (hs : slots ≤ R.slots) :
    Go p e below (Qw R s Z h0 L0 Rel) (T.setTop (mkF m pc Ls (.int z :: st))) :=
  ret_fin C S (fun q => nomatch q) is hp his js hpm hro hr ha hc hs fun fs hl => by
    obtain ⟨s', locs, X, hZ, hown, ksame, kext, kwr⟩ := S.opn C
    exact retOut X C.1 C.2.2.2.2.1 rfl (Or.inl ⟨rfl, Or.inl rfl, z, rfl⟩) (C.hd hd) hl
theorem Cx.retJ {Rel : Option Value → HL → HL → Prop} {z : Int64} (C : Cx p s m meth c Z own bytes maxl (some .long) nm) (S : St p l e R s m args below meth c Z h0 L0 T L M cells slots) (hd : decode bytes pc = .ok (.lreturn, 1)) (is : List Nat) {L1 : HL} (hp : OwnK.pick L is = L1) (his : is.Nodup) (js : List Nat) {M1 : HL} (hpm : OwnK.pick M js = M1) (hro : ∀ x ∈ M1, RoN Z h0 x.1) (hr : Rel (some (.long z)) L1 M1) (ha : (adr L1).take L0.length = adr L0) (hc : cells ≤ R.cells) (hs : slots ≤ R.slots) :
    Go p e below (Qw R s Z h0 L0 Rel) (T.setTop (mkF m pc Ls (.long z :: st))) :=
  ret_fin C S (fun q => nomatch q) is hp his js hpm hro hr ha hc hs fun fs hl => by
    obtain ⟨s', locs, X, hZ, hown, ksame, kext, kwr⟩ := S.opn C
    exact retOut X C.1 C.2.2.2.2.1 rfl (Or.inr (Or.inl ⟨rfl, rfl, z, rfl⟩)) (C.hd hd) hl
theorem Cx.retN {Rel : Option Value → HL → HL → Prop} {t : FieldType} {z : Int32} (C : Cx p s m meth c Z own bytes maxl (some t) nm) (S : St p l e R s m args below meth c Z h0 L0 T L M cells slots) (ht : t = .boolean ∨ t = .byte ∨ t = .char ∨ t = .short) (hd : decode bytes pc = .ok (.ireturn, 1)) (z' : Int32) (hz : nar t z = z') (is : List Nat) {L1 : HL} (hp : OwnK.pick L is = L1) (his : is.Nodup) (js : List Nat) {M1 : HL} (hpm : OwnK.pick M js = M1) (hro : ∀ x ∈ M1, RoN Z h0 x.1) (hr : Rel (some (.int z')) L1 M1) (ha : (adr L1).take L0.length = adr L0) (hc : cells ≤ R.cells) (hs : slots ≤ R.slots) :
    Go p e below (Qw R s Z h0 L0 Rel) (T.setTop (mkF m pc Ls (.int z :: st))) :=
  ret_fin C S (fun q => nomatch q) is hp his js hpm hro hr ha hc hs fun fs hl => by
    obtain ⟨s', locs, X, hZ, hown, ksame, kext, kwr⟩ := S.opn C
    subst hz
    exact RoadKit.retN X C.1 C.2.2.2.2.1 ht (C.hd hd) hl

theorem back_fin {N0 : HL} {Rel : Option Value → HL → HL → Prop} {T' : State} {locs Lc : List Loc} {v : Option Value} {is : List Nat} {dc ds : Nat} (N : Fr Z.heap.size locs) (Kp : Keep h0 T.heap (adr L0)) (G : Good (Bs Z h0 L0) T.heap L) (q : RoL T.heap L M) (hpk : OwnK.pick L is = N0) (hln : N0.length = is.length)
    (X' : Stand p l e R s m args below meth c T' (locs ++ Lc) (cells + dc) (slots + ds)) (hQ : Post Z T.heap N0 Rel v T'.heap Lc) :
    ∃ L1 M1, Rel v L1 M1 ∧ (∀ x ∈ M1, RoN Z h0 x.1) ∧ St p l e R s m args below meth c Z h0 L0 T' (puts L is (L1.take N0.length) ++ L1.drop N0.length) (M ++ M1) (cells + dc) (slots + ds) := by
  obtain ⟨N', O', K', L1, M1, hr, ha, G1, hM1⟩ := hQ
  have hsub : ∀ x ∈ adr N0, x ∈ adr L := fun x hx => by
    subst hpk
    obtain ⟨y, hy, rfl⟩ := List.mem_map.mp hx
    obtain ⟨i, -, hi⟩ := pick_mem hy
    exact mem_adr (nth_mem hi)
  have hsub2 : ∀ x ∈ adr N0, x ∈ adr L0 ∨ h0.size ≤ x := fun x hx => by
    obtain ⟨y, hy, rfl⟩ := List.mem_map.mp (hsub x hx)
    exact (G.2 y hy).1.2
  have F : Fit2 L is (L1.take N0.length) := by
    subst hpk
    refine fit2_of hln ?_
    rw [← ha]; simp [adr, List.map_take]
  refine ⟨L1, M1, hr, fun x hx => (hM1 x hx).2.2.imp id fun z => Nat.le_trans Kp.1 z, ?_⟩
  refine ⟨_, X', N.app N', O', Kp.trans K' hsub2, G.call hpk hln K' ha G1 fun a q1 q2 => ⟨q1, Or.inr (Nat.le_trans Kp.1 q2)⟩, fun x hx => ?_⟩
  rcases List.mem_append.mp hx with hx | hx
  · obtain ⟨⟨cl, h1, h2⟩, r⟩ := q x hx
    refine ⟨⟨cl, K'.2.1 _ _ h1 fun z => r (hsub _ z), h2⟩, fun z => ?_⟩
    rw [adr, List.map_append] at z
    rcases List.mem_append.mp z with z | z
    · have z' : x.1 ∈ adr (puts L is (L1.take N0.length)) := z
      rw [puts_adr F] at z'; exact r z'
    · obtain ⟨y, hy, e⟩ := List.mem_map.mp z
      have hb := (G1.2 y (List.mem_of_mem_drop hy)).1.2
      have hnd := G1.1
      rw [← List.take_append_drop N0.length L1, adr, List.map_append] at hnd
      have hdis := (List.nodup_append.mp hnd).2.2
      rcases hb with hb | hb
      · have ha' : adr (L1.take N0.length) = adr N0 := by rw [← ha]; simp [adr, List.map_take]
        exact hdis _ (show y.1 ∈ adr (L1.take N0.length) by rw [ha']; exact hb) _ (mem_adr hy) rfl
      · have := (Array.getElem?_eq_some_iff.mp h1).1
        rw [← e] at this; exact Nat.not_lt.mpr hb this
  · obtain ⟨lv, r, rn⟩ := hM1 x hx
    refine ⟨lv, fun z => ?_⟩
    rw [adr, List.map_append] at z
    rcases List.mem_append.mp z with z | z
    · have z' : x.1 ∈ adr (puts L is (L1.take N0.length)) := z
      rw [puts_adr F] at z'
      obtain ⟨y, hy, e⟩ := List.mem_map.mp z'
      obtain ⟨⟨b1, -⟩, lvy⟩ := G.2 y hy
      rcases rn with rn | rn
      · rw [← e] at rn; exact Nat.not_lt.mpr b1 rn
      · rw [← e] at rn; exact Nat.not_lt.mpr rn lvy.lt
    · obtain ⟨y, hy, e⟩ := List.mem_map.mp z
      exact r (e ▸ mem_adr (List.mem_of_mem_drop hy))
theorem ro_pick {K0 : HL} {js is : List Nat} {N0 : HL} (q : RoL T.heap L M) (hpk : OwnK.pick L is = N0) (hpm : OwnK.pick M js = K0) : RoL T.heap N0 K0 := fun x hx => by
  subst hpk hpm
  obtain ⟨j, -, hj⟩ := pick_mem hx
  obtain ⟨r1, r2⟩ := q x (nth_mem hj)
  refine ⟨r1, fun z => r2 ?_⟩
  obtain ⟨y, hy, e⟩ := List.mem_map.mp z
  obtain ⟨i, -, hi⟩ := pick_mem hy
  exact e ▸ mem_adr (nth_mem hi)

theorem Cx.callStatic (C : Cx p s m meth c Z own bytes maxl ret nm) (S : St p l e R s m args below meth c Z h0 L0 T L M cells slots) {N0 K0 : HL} {Rel : Option Value → HL → HL → Prop} {rm : Room} {as' : Array Value} {bytesC : ByteArray} {maxC : Nat} {idx : Nat} {y : MethodName} {retC : Option FieldType} (w1 : (Jvm.Cond.methodLink own idx y).before a0 Z = true) (w2 : (Jvm.Cond.static y).before a0 Z = true) (w3 : (Jvm.Cond.initialized y.cls).before a0 Z = true) (w4 : (Jvm.Cond.code y bytesC maxC retC).before a0 Z = true) (hy : y.cls ≠ "java/lang/invoke/MethodHandle" ∧ y.cls ≠ "java/lang/invoke/VarHandle")
    (H : Con l Z y bytesC maxC retC rm as' N0 K0 Rel) (hd : decode bytes pc = .ok (.invokestatic idx, 3)) (pc' : Nat) (hp : pc + 3 = pc') (hz : Ls.size = maxl) {ps : List FieldType} {rt : Option FieldType} (hpd : parseMethodDescriptor y.desc = some ⟨ps, rt⟩) {stk : List Value} (argsL rest : List Value) (hst : stk = argsL.reverse ++ rest) (hlen : argsL.length = ps.length) (has : argsL.toArray = as')
    (is : List Nat) (hpk : OwnK.pick L is = N0) (his : is.Nodup) (hln : N0.length = is.length) (js : List Nat) (hpm : OwnK.pick M js = K0) (hfr : rm.frames + 1 ≤ R.frames) (hlo : (rest.map fun v => v.category).sum + (maxC + 11) + rm.locals ≤ R.locals) (hcl : cells + rm.cells ≤ R.cells) (hsl : slots + rm.slots ≤ R.slots)
    (k : ∀ (T' : State) (v : Option Value) (L1 M1 : HL), Rel v L1 M1 → (∀ x ∈ M1, RoN Z h0 x.1) → St p l e R s m args below meth c Z h0 L0 T' (puts L is (L1.take N0.length) ++ L1.drop N0.length) (M ++ M1) (cells + rm.cells) (slots + rm.slots) → Go p e below Q (T'.setTop (mkF m pc' Ls (v.toList ++ rest)))) : Go p e below Q (T.setTop (mkF m pc Ls stk)) := by
  subst hp hst
  obtain ⟨locs, X, N, O, Kp, G, q⟩ := S
  have hZ := C.2.2.2.2.2.2.1
  have hown := C.2.2.2.1
  have G0 : Good (fun a => Z.heap.size ≤ a) T.heap N0 := hpk ▸ (G.pick his).mono fun x _ z => z.1
  obtain ⟨v, _, ⟨T', L', k', n'⟩, -, X', ⟨Lc, hQ, l1, y1, z1⟩, stp⟩ := Jvm.LawKit.callS X C.1 (y := y) hown (mvT hZ w1) (mvT hZ w2) (mvT hZ w3) (mvT hZ w4) hy (backOf (W := (rest.map fun v => v.category).sum) (H [] T.heap O G0 (ro_pick q hpk hpm)) hZ w4 w3 hfr hlo) (g := mkF m pc Ls (argsL.reverse ++ rest)) rfl (hz.trans C.2.2.1.symm) (argsL := argsL) (rest := rest) (lenOf hpd hlen) rfl (by show 2 * 0 + _ ≤ _; omega) (C.hd hd) (fun _ _ => ⟨has, rfl, hcl, hsl⟩)
  dsimp only [Pt.U, Pt.locs, Pt.cells, Pt.slots] at X' l1 y1 z1 stp hQ
  subst l1 y1 z1
  obtain ⟨L1, M1, hr, hn, S'⟩ := back_fin N Kp G q hpk hln X' hQ
  exact Go.step stp (k T' v L1 M1 hr hn S')
theorem Cx.callSpecial (C : Cx p s m meth c Z own bytes maxl ret nm) (S : St p l e R s m args below meth c Z h0 L0 T L M cells slots) {N0 K0 : HL} {Rel : Option Value → HL → HL → Prop} {rm : Room} {as' : Array Value} {bytesC : ByteArray} {maxC : Nat} {idx : Nat} {y : MethodName} {a : Addr} (hy1 : y.name = "<init>") (w1 : (Jvm.Cond.methodLink own idx y).before a0 Z = true) (w2 : (Jvm.Cond.instanceMethod y).before a0 Z = true) (w3 : (Jvm.Cond.initialized y.cls).before a0 Z = true) (w4 : (Jvm.Cond.code y bytesC maxC none).before a0 Z = true) (hy : y.cls ≠ "java/lang/invoke/MethodHandle" ∧ y.cls ≠ "java/lang/invoke/VarHandle")
    (H : Con l Z y bytesC maxC none rm as' N0 K0 Rel) (hd : decode bytes pc = .ok (.invokespecial idx, 3)) (pc' : Nat) (hp : pc + 3 = pc') (hz : Ls.size = maxl) {ps : List FieldType} {rt : Option FieldType} (hpd : parseMethodDescriptor y.desc = some ⟨ps, rt⟩) {stk : List Value} (argsL rest : List Value) (hst : stk = argsL.reverse ++ .ref a :: rest) (hlen : argsL.length = ps.length) (has : (Value.ref a :: argsL).toArray = as')
    (is : List Nat) (hpk : OwnK.pick L is = N0) (his : is.Nodup) (hln : N0.length = is.length) (js : List Nat) (hpm : OwnK.pick M js = K0) (hfr : rm.frames + 1 ≤ R.frames) (hlo : (rest.map fun v => v.category).sum + (maxC + 11) + rm.locals ≤ R.locals) (hcl : cells + rm.cells ≤ R.cells) (hsl : slots + rm.slots ≤ R.slots)
    (k : ∀ (T' : State) (v : Option Value) (L1 M1 : HL), Rel v L1 M1 → (∀ x ∈ M1, RoN Z h0 x.1) → St p l e R s m args below meth c Z h0 L0 T' (puts L is (L1.take N0.length) ++ L1.drop N0.length) (M ++ M1) (cells + rm.cells) (slots + rm.slots) → Go p e below Q (T'.setTop (mkF m pc' Ls (v.toList ++ rest)))) : Go p e below Q (T.setTop (mkF m pc Ls stk)) := by
  subst hp hst
  obtain ⟨locs, X, N, O, Kp, G, q⟩ := S
  have hZ := C.2.2.2.2.2.2.1
  have hown := C.2.2.2.1
  have G0 : Good (fun a => Z.heap.size ≤ a) T.heap N0 := hpk ▸ (G.pick his).mono fun x _ z => z.1
  obtain ⟨v, _, ⟨T', L', k', n'⟩, -, X', ⟨Lc, hQ, l1, y1, z1⟩, stp⟩ := X.specialBack C.1 (y := y) hy1 hown (mvT hZ w1) (mvT hZ w2) (mvT hZ w4) hy (backOf (W := (rest.map fun v => v.category).sum) (H [] T.heap O G0 (ro_pick q hpk hpm)) hZ w4 w3 hfr hlo) (g := mkF m pc Ls (argsL.reverse ++ .ref a :: rest)) rfl (hz.trans C.2.2.1.symm) (Steps.refl _) (a := a) (argsL := argsL) (rest := rest) (lenOf hpd hlen) rfl (by show 2 * 0 + _ ≤ _; omega) (C.hd hd) (fun _ _ => ⟨has, rfl, hcl, hsl⟩)
  dsimp only [Pt.U, Pt.locs, Pt.cells, Pt.slots] at X' l1 y1 z1 stp hQ
  subst l1 y1 z1
  obtain ⟨L1, M1, hr, hn, S'⟩ := back_fin N Kp G q hpk hln X' hQ
  exact Go.trans stp (k T' v L1 M1 hr hn S')
theorem Cx.callVirtual (C : Cx p s m meth c Z own bytes maxl ret nm) (S : St p l e R s m args below meth c Z h0 L0 T L M cells slots) {N0 K0 : HL} {Rel : Option Value → HL → HL → Prop} {rm : Room} {as' : Array Value} {bytesC : ByteArray} {maxC : Nat} {idx : Nat} {y z : MethodName} {a : Addr} {K : String} {retC : Option FieldType} (E : Exa Z T.heap a K) (w1 : (Jvm.Cond.methodLink own idx y).before a0 Z = true) (w2 : (Jvm.Cond.declares y).before a0 Z = true) (wn : (Jvm.Cond.selects y.cls y y).before a0 Z = true ∨ (∃ S0, (Jvm.Cond.superclass y.cls S0).before a0 Z = true) ∨ (Jvm.Cond.noSuperclass y.cls).before a0 Z = true) (ws : (Jvm.Cond.selects K y z).before a0 Z = true) (wi : (Jvm.Cond.instanceMethod z).before a0 Z = true) (w3 : (Jvm.Cond.initialized z.cls).before a0 Z = true) (w4 : (Jvm.Cond.code z bytesC maxC retC).before a0 Z = true) (hy : y.cls ≠ "java/lang/invoke/MethodHandle" ∧ y.cls ≠ "java/lang/invoke/VarHandle")
    (H : Con l Z z bytesC maxC retC rm as' N0 K0 Rel) (hd : decode bytes pc = .ok (.invokevirtual idx, 3)) (pc' : Nat) (hp : pc + 3 = pc') (hz : Ls.size = maxl) {ps : List FieldType} {rt : Option FieldType} (hpd : parseMethodDescriptor y.desc = some ⟨ps, rt⟩) {stk : List Value} (argsL rest : List Value) (hst : stk = argsL.reverse ++ .ref a :: rest) (hlen : argsL.length = ps.length) (has : (Value.ref a :: argsL).toArray = as')
    (is : List Nat) (hpk : OwnK.pick L is = N0) (his : is.Nodup) (hln : N0.length = is.length) (js : List Nat) (hpm : OwnK.pick M js = K0) (hfr : rm.frames + 1 ≤ R.frames) (hlo : (rest.map fun v => v.category).sum + (maxC + 11) + rm.locals ≤ R.locals) (hcl : cells + rm.cells ≤ R.cells) (hsl : slots + rm.slots ≤ R.slots)
    (k : ∀ (T' : State) (v : Option Value) (L1 M1 : HL), Rel v L1 M1 → (∀ x ∈ M1, RoN Z h0 x.1) → St p l e R s m args below meth c Z h0 L0 T' (puts L is (L1.take N0.length) ++ L1.drop N0.length) (M ++ M1) (cells + rm.cells) (slots + rm.slots) → Go p e below Q (T'.setTop (mkF m pc' Ls (v.toList ++ rest)))) : Go p e below Q (T.setTop (mkF m pc Ls stk)) := by
  subst hp hst
  obtain ⟨locs, X, N, O, Kp, G, q⟩ := S
  have hZ := C.2.2.2.2.2.2.1
  have hown := C.2.2.2.1
  have G0 : Good (fun a => Z.heap.size ≤ a) T.heap N0 := hpk ▸ (G.pick his).mono fun x _ z => z.1
  obtain ⟨v, _, ⟨T', L', k', n'⟩, -, X', ⟨Lc, hQ, l1, y1, z1⟩, stp⟩ := X.virtualBack C.1 (y := y) (z := z) hown (mvT hZ w1) (mvT hZ w2) (by
    rcases wn with q | ⟨S0, q⟩ | q
    · exact notFace_of_selects (args := #[]) (mvT hZ q)
    · exact nf_super (args := #[]) (mvT hZ q)
    · exact nf_top (args := #[]) (mvT hZ q)) (mvT hZ ws) (mvT hZ wi) hy (backOf (W := (rest.map fun v => v.category).sum) (H [] T.heap O G0 (ro_pick q hpk hpm)) hZ w4 w3 hfr hlo) (isOf (s := s) (T := T) hZ rfl E).choose_spec.choose_spec.1 (isOf (s := s) (T := T) hZ rfl E).choose_spec.choose_spec.2.2 (g := mkF m pc Ls (argsL.reverse ++ .ref a :: rest)) rfl (hz.trans C.2.2.1.symm) (Steps.refl _) (argsL := argsL) (rest := rest) (lenOf hpd hlen) rfl (by show 2 * 0 + _ ≤ _; omega) (C.hd hd) (fun _ _ => ⟨has, rfl, hcl, hsl⟩)
  dsimp only [Pt.U, Pt.locs, Pt.cells, Pt.slots] at X' l1 y1 z1 stp hQ
  subst l1 y1 z1
  obtain ⟨L1, M1, hr, hn, S'⟩ := back_fin N Kp G q hpk hln X' hQ
  exact Go.trans stp (k T' v L1 M1 hr hn S')
theorem Cx.callUp (C : Cx p s m meth c Z own bytes maxl ret nm) (S : St p l e R s m args below meth c Z h0 L0 T L M cells slots) {N0 K0 : HL} {Rel : Option Value → HL → HL → Prop} {rm : Room} {as' : Array Value} {bytesC : ByteArray} {maxC : Nat} {idx : Nat} {y z : MethodName} {a : Addr} {K owner : String} {retC : Option FieldType} (E : Exa Z T.heap a K) (w1 : (Jvm.Cond.methodLink own idx y).before a0 Z = true) (w2 : (Jvm.Cond.sameMethod y.cls owner y.name y.desc).before a0 Z = true) (wn : (Jvm.Cond.declares ⟨owner, y.name, y.desc⟩).before a0 Z = true) (ws : (Jvm.Cond.selects K y z).before a0 Z = true) (wi : (Jvm.Cond.instanceMethod z).before a0 Z = true) (w3 : (Jvm.Cond.initialized z.cls).before a0 Z = true) (w4 : (Jvm.Cond.code z bytesC maxC retC).before a0 Z = true) (hy : owner ≠ "java/lang/invoke/MethodHandle" ∧ owner ≠ "java/lang/invoke/VarHandle")
    (H : Con l Z z bytesC maxC retC rm as' N0 K0 Rel) (hd : decode bytes pc = .ok (.invokevirtual idx, 3)) (pc' : Nat) (hp : pc + 3 = pc') (hz : Ls.size = maxl) {ps : List FieldType} {rt : Option FieldType} (hpd : parseMethodDescriptor y.desc = some ⟨ps, rt⟩) {stk : List Value} (argsL rest : List Value) (hst : stk = argsL.reverse ++ .ref a :: rest) (hlen : argsL.length = ps.length) (has : (Value.ref a :: argsL).toArray = as')
    (is : List Nat) (hpk : OwnK.pick L is = N0) (his : is.Nodup) (hln : N0.length = is.length) (js : List Nat) (hpm : OwnK.pick M js = K0) (hfr : rm.frames + 1 ≤ R.frames) (hlo : (rest.map fun v => v.category).sum + (maxC + 11) + rm.locals ≤ R.locals) (hcl : cells + rm.cells ≤ R.cells) (hsl : slots + rm.slots ≤ R.slots)
    (k : ∀ (T' : State) (v : Option Value) (L1 M1 : HL), Rel v L1 M1 → (∀ x ∈ M1, RoN Z h0 x.1) → St p l e R s m args below meth c Z h0 L0 T' (puts L is (L1.take N0.length) ++ L1.drop N0.length) (M ++ M1) (cells + rm.cells) (slots + rm.slots) → Go p e below Q (T'.setTop (mkF m pc' Ls (v.toList ++ rest)))) : Go p e below Q (T.setTop (mkF m pc Ls stk)) := by
  subst hp hst
  obtain ⟨locs, X, N, O, Kp, G, q⟩ := S
  have hZ := C.2.2.2.2.2.2.1
  have hown := C.2.2.2.1
  have G0 : Good (fun a => Z.heap.size ≤ a) T.heap N0 := hpk ▸ (G.pick his).mono fun x _ z => z.1
  obtain ⟨v, _, ⟨T', L', k', n'⟩, -, X', ⟨Lc, hQ, l1, y1, z1⟩, stp⟩ := X.virtualBackUp C.1 (x := y) (y := z) hown (mvT hZ w1) (mvT hZ w2) (mvT hZ wn) hy (mvT hZ ws) (mvT hZ wi) (backOf (W := (rest.map fun v => v.category).sum) (H [] T.heap O G0 (ro_pick q hpk hpm)) hZ w4 w3 hfr hlo) (isOf (s := s) (T := T) hZ rfl E).choose_spec.choose_spec.1 (isOf (s := s) (T := T) hZ rfl E).choose_spec.choose_spec.2.2 (g := mkF m pc Ls (argsL.reverse ++ .ref a :: rest)) rfl (hz.trans C.2.2.1.symm) (Steps.refl _) (argsL := argsL) (rest := rest) (lenOf hpd hlen) rfl (by show 2 * 0 + _ ≤ _; omega) (C.hd hd) (fun _ _ => ⟨has, rfl, hcl, hsl⟩)
  dsimp only [Pt.U, Pt.locs, Pt.cells, Pt.slots] at X' l1 y1 z1 stp hQ
  subst l1 y1 z1
  obtain ⟨L1, M1, hr, hn, S'⟩ := back_fin N Kp G q hpk hln X' hQ
  exact Go.trans stp (k T' v L1 M1 hr hn S')
theorem Cx.callIface (C : Cx p s m meth c Z own bytes maxl ret nm) (S : St p l e R s m args below meth c Z h0 L0 T L M cells slots) {N0 K0 : HL} {Rel : Option Value → HL → HL → Prop} {rm : Room} {as' : Array Value} {bytesC : ByteArray} {maxC : Nat} {idx count : Nat} {y z : MethodName} {a : Addr} {K : String} {retC : Option FieldType} (E : Exa Z T.heap a K) (w1 : (Jvm.Cond.methodLink own idx y).before a0 Z = true) (w2 : (Jvm.Cond.declares y).before a0 Z = true) (wf : (Jvm.Cond.interfaceMethod y.cls y.cls y.name y.desc).before a0 Z = true) (hfa : ((Jvm.Cond.interfaceMethod y.cls y.cls y.name y.desc).onTables && (Jvm.Cond.interfaceMethod y.cls y.cls y.name y.desc).keepsFace) = true) (ws : (Jvm.Cond.selects K y z).before a0 Z = true) (wi : (Jvm.Cond.instanceMethod z).before a0 Z = true) (wp : (Jvm.Cond.publicMethod z).before a0 Z = true) (wu : (Jvm.Cond.unhidden K y.name y.desc).before a0 Z = true) (wc : (Jvm.Cond.castable K y.cls).before a0 Z = true) (w3 : (Jvm.Cond.initialized z.cls).before a0 Z = true) (w4 : (Jvm.Cond.code z bytesC maxC retC).before a0 Z = true) (hy : y.cls ≠ "java/lang/invoke/MethodHandle" ∧ y.cls ≠ "java/lang/invoke/VarHandle")
    (H : Con l Z z bytesC maxC retC rm as' N0 K0 Rel) (hd : decode bytes pc = .ok (.invokeinterface idx count, 5)) (pc' : Nat) (hp : pc + 5 = pc') (hz : Ls.size = maxl) {ps : List FieldType} {rt : Option FieldType} (hpd : parseMethodDescriptor y.desc = some ⟨ps, rt⟩) {stk : List Value} (argsL rest : List Value) (hst : stk = argsL.reverse ++ .ref a :: rest) (hlen : argsL.length = ps.length) (has : (Value.ref a :: argsL).toArray = as')
    (is : List Nat) (hpk : OwnK.pick L is = N0) (his : is.Nodup) (hln : N0.length = is.length) (js : List Nat) (hpm : OwnK.pick M js = K0) (hfr : rm.frames + 1 ≤ R.frames) (hlo : (rest.map fun v => v.category).sum + (maxC + 11) + rm.locals ≤ R.locals) (hcl : cells + rm.cells ≤ R.cells) (hsl : slots + rm.slots ≤ R.slots)
    (k : ∀ (T' : State) (v : Option Value) (L1 M1 : HL), Rel v L1 M1 → (∀ x ∈ M1, RoN Z h0 x.1) → St p l e R s m args below meth c Z h0 L0 T' (puts L is (L1.take N0.length) ++ L1.drop N0.length) (M ++ M1) (cells + rm.cells) (slots + rm.slots) → Go p e below Q (T'.setTop (mkF m pc' Ls (v.toList ++ rest)))) : Go p e below Q (T.setTop (mkF m pc Ls stk)) := by
  subst hp hst
  obtain ⟨locs, X, N, O, Kp, G, q⟩ := S
  have hZ := C.2.2.2.2.2.2.1
  have hown := C.2.2.2.1
  have G0 : Good (fun a => Z.heap.size ≤ a) T.heap N0 := hpk ▸ (G.pick his).mono fun x _ z => z.1
  obtain ⟨v, _, ⟨T', L', k', n'⟩, -, X', ⟨Lc, hQ, l1, y1, z1⟩, stp⟩ := X.interfaceBack C.1 (xi := y) (y := z) hown (mvT hZ w1) (mvT hZ w2) (mvT hZ wf hfa) (mvT hZ ws) (mvT hZ wi) (mvT hZ wp) (mvT hZ wu) (mvT hZ wc) hy (backOf (W := (rest.map fun v => v.category).sum) (H [] T.heap O G0 (ro_pick q hpk hpm)) hZ w4 w3 hfr hlo) (isOf (s := s) (T := T) hZ rfl E).choose_spec.choose_spec.1 (isOf (s := s) (T := T) hZ rfl E).choose_spec.choose_spec.2.1 (isOf (s := s) (T := T) hZ rfl E).choose_spec.choose_spec.2.2 (g := mkF m pc Ls (argsL.reverse ++ .ref a :: rest)) rfl (hz.trans C.2.2.1.symm) (Steps.refl _) (argsL := argsL) (rest := rest) (lenOf hpd hlen) rfl (by show 2 * 0 + _ ≤ _; omega) (C.hd hd) (fun _ _ => ⟨has, rfl, hcl, hsl⟩)
  dsimp only [Pt.U, Pt.locs, Pt.cells, Pt.slots] at X' l1 y1 z1 stp hQ
  subst l1 y1 z1
  obtain ⟨L1, M1, hr, hn, S'⟩ := back_fin N Kp G q hpk hln X' hQ
  exact Go.trans stp (k T' v L1 M1 hr hn S')
theorem Cx.callPrivate (C : Cx p s m meth c Z own bytes maxl ret nm) (S : St p l e R s m args below meth c Z h0 L0 T L M cells slots) {N0 K0 : HL} {Rel : Option Value → HL → HL → Prop} {rm : Room} {as' : Array Value} {bytesC : ByteArray} {maxC : Nat} {idx : Nat} {y : MethodName} {a : Addr} {K : String} {retC : Option FieldType} (E : Exa Z T.heap a K) (w1 : (Jvm.Cond.methodLink own idx y).before a0 Z = true) (wi : (Jvm.Cond.instanceMethod y).before a0 Z = true) (ws : (Jvm.Cond.selects y.cls y y).before a0 Z = true) (wp : (Jvm.Cond.privateMethod y).before a0 Z = true) (w3 : (Jvm.Cond.initialized y.cls).before a0 Z = true) (w4 : (Jvm.Cond.code y bytesC maxC retC).before a0 Z = true) (hy : y.cls ≠ "java/lang/invoke/MethodHandle" ∧ y.cls ≠ "java/lang/invoke/VarHandle")
    (H : Con l Z y bytesC maxC retC rm as' N0 K0 Rel) (hd : decode bytes pc = .ok (.invokevirtual idx, 3)) (pc' : Nat) (hp : pc + 3 = pc') (hz : Ls.size = maxl) {ps : List FieldType} {rt : Option FieldType} (hpd : parseMethodDescriptor y.desc = some ⟨ps, rt⟩) {stk : List Value} (argsL rest : List Value) (hst : stk = argsL.reverse ++ .ref a :: rest) (hlen : argsL.length = ps.length) (has : (Value.ref a :: argsL).toArray = as')
    (is : List Nat) (hpk : OwnK.pick L is = N0) (his : is.Nodup) (hln : N0.length = is.length) (js : List Nat) (hpm : OwnK.pick M js = K0) (hfr : rm.frames + 1 ≤ R.frames) (hlo : (rest.map fun v => v.category).sum + (maxC + 11) + rm.locals ≤ R.locals) (hcl : cells + rm.cells ≤ R.cells) (hsl : slots + rm.slots ≤ R.slots)
    (k : ∀ (T' : State) (v : Option Value) (L1 M1 : HL), Rel v L1 M1 → (∀ x ∈ M1, RoN Z h0 x.1) → St p l e R s m args below meth c Z h0 L0 T' (puts L is (L1.take N0.length) ++ L1.drop N0.length) (M ++ M1) (cells + rm.cells) (slots + rm.slots) → Go p e below Q (T'.setTop (mkF m pc' Ls (v.toList ++ rest)))) : Go p e below Q (T.setTop (mkF m pc Ls stk)) := by
  subst hp hst
  obtain ⟨locs, X, N, O, Kp, G, q⟩ := S
  have hZ := C.2.2.2.2.2.2.1
  have hown := C.2.2.2.1
  have G0 : Good (fun a => Z.heap.size ≤ a) T.heap N0 := hpk ▸ (G.pick his).mono fun x _ z => z.1
  obtain ⟨v, _, ⟨T', L', k', n'⟩, -, X', ⟨Lc, hQ, l1, y1, z1⟩, stp⟩ := X.privateBack C.1 (y := y) hown (mvT hZ w1) (mvT hZ wi) (mvT hZ ws) (Cond.privateMethod_at (mvP (s := s) hZ wp (args := #[]))) (mvT hZ w4) hy (backOf (W := (rest.map fun v => v.category).sum) (H [] T.heap O G0 (ro_pick q hpk hpm)) hZ w4 w3 hfr hlo) (g := mkF m pc Ls (argsL.reverse ++ .ref a :: rest)) rfl (hz.trans C.2.2.1.symm) (Steps.refl _) (a := a) E.cell.choose_spec.1 E.cell.choose_spec.2 (argsL := argsL) (rest := rest) (lenOf hpd hlen) rfl (by show 2 * 0 + _ ≤ _; omega) (C.hd hd) (fun _ _ => ⟨has, rfl, hcl, hsl⟩)
  dsimp only [Pt.U, Pt.locs, Pt.cells, Pt.slots] at X' l1 y1 z1 stp hQ
  subst l1 y1 z1
  obtain ⟨L1, M1, hr, hn, S'⟩ := back_fin N Kp G q hpk hln X' hQ
  exact Go.trans stp (k T' v L1 M1 hr hn S')
end Laws
end Jvm.OwnK
namespace Jvm.Pilot.@@N@@
open Jvm Jvm.ClassFile Sem Op Lib Jvm.Free Jvm.Stand Jvm.RoadKit Jvm.OwnK Bundle Jvm.Pilot.@@N@@.Jvm.D
abbrev Hw (a0 : Array Value) (Z : State) : Prop := ∀ d ∈ tables_1, d.before a0 Z = true
theorem w0 {a0 : Array Value} {Z : State} (hw : Hw a0 Z) : (Jvm.Cond.constant "com/example/exdate/exdate/cli/RowsReadLinePinLaw" (7 : Nat) (131072 : Int32)).before a0 Z = true := hw _ (List.mem_of_getElem? (i := 0) rfl)
theorem w1 {a0 : Array Value} {Z : State} (hw : Hw a0 Z) : (Jvm.Cond.arrayClass Jvm.ClassFile.FieldType.char).before a0 Z = true := hw _ (List.mem_of_getElem? (i := 1) rfl)
theorem w2 {a0 : Array Value} {Z : State} (hw : Hw a0 Z) : (Jvm.Cond.classLink "com/example/exdate/exdate/cli/RowsReadLinePinLaw" (8 : Nat) "java/lang/String").before a0 Z = true := hw _ (List.mem_of_getElem? (i := 2) rfl)
theorem w3 {a0 : Array Value} {Z : State} (hw : Hw a0 Z) : (Jvm.Cond.instantiable "java/lang/String" (4 : Nat)).before a0 Z = true := hw _ (List.mem_of_getElem? (i := 3) rfl)
theorem w4 {a0 : Array Value} {Z : State} (hw : Hw a0 Z) : (Jvm.Cond.initialized "java/lang/String").before a0 Z = true := hw _ (List.mem_of_getElem? (i := 4) rfl)
theorem w5 {a0 : Array Value} {Z : State} (hw : Hw a0 Z) : (Jvm.Cond.methodLink "com/example/exdate/exdate/cli/RowsReadLinePinLaw" (10 : Nat) ({ cls := "java/lang/String", name := "<init>", desc := "([C)V" } : Jvm.MethodName)).before a0 Z = true := hw _ (List.mem_of_getElem? (i := 5) rfl)
theorem w6 {a0 : Array Value} {Z : State} (hw : Hw a0 Z) : (Jvm.Cond.instanceMethod ({ cls := "java/lang/String", name := "<init>", desc := "([C)V" } : Jvm.MethodName)).before a0 Z = true := hw _ (List.mem_of_getElem? (i := 6) rfl)
theorem w7 {a0 : Array Value} {Z : State} (hw : Hw a0 Z) : (Jvm.Cond.code ({ cls := "java/lang/String", name := "<init>", desc := "([C)V" } : Jvm.MethodName) jdk_42_method_3_code (2 : Nat) (Option.none : Option Jvm.ClassFile.FieldType)).before a0 Z = true := hw _ (List.mem_of_getElem? (i := 7) rfl)
theorem w8 {a0 : Array Value} {Z : State} (hw : Hw a0 Z) : (Jvm.Cond.methodLink "java/lang/String" (27 : Nat) ({ cls := "java/lang/String", name := "<init>", desc := "([CIILjava/lang/Void;)V" } : Jvm.MethodName)).before a0 Z = true := hw _ (List.mem_of_getElem? (i := 8) rfl)
theorem w9 {a0 : Array Value} {Z : State} (hw : Hw a0 Z) : (Jvm.Cond.instanceMethod ({ cls := "java/lang/String", name := "<init>", desc := "([CIILjava/lang/Void;)V" } : Jvm.MethodName)).before a0 Z = true := hw _ (List.mem_of_getElem? (i := 9) rfl)
theorem w11 {a0 : Array Value} {Z : State} (hw : Hw a0 Z) : (Jvm.Cond.code ({ cls := "java/lang/String", name := "<init>", desc := "([CIILjava/lang/Void;)V" } : Jvm.MethodName) jdk_42_method_149_code (6 : Nat) (Option.none : Option Jvm.ClassFile.FieldType)).before a0 Z = true := hw _ (List.mem_of_getElem? (i := 11) rfl)
theorem w12 {a0 : Array Value} {Z : State} (hw : Hw a0 Z) : (Jvm.Cond.methodLink "java/lang/String" (1 : Nat) ({ cls := "java/lang/Object", name := "<init>", desc := "()V" } : Jvm.MethodName)).before a0 Z = true := hw _ (List.mem_of_getElem? (i := 12) rfl)
theorem w13 {a0 : Array Value} {Z : State} (hw : Hw a0 Z) : (Jvm.Cond.instanceMethod ({ cls := "java/lang/Object", name := "<init>", desc := "()V" } : Jvm.MethodName)).before a0 Z = true := hw _ (List.mem_of_getElem? (i := 13) rfl)
theorem w14 {a0 : Array Value} {Z : State} (hw : Hw a0 Z) : (Jvm.Cond.code ({ cls := "java/lang/Object", name := "<init>", desc := "()V" } : Jvm.MethodName) object_method_1_code (1 : Nat) (Option.none : Option Jvm.ClassFile.FieldType)).before a0 Z = true := hw _ (List.mem_of_getElem? (i := 14) rfl)
theorem w15 {a0 : Array Value} {Z : State} (hw : Hw a0 Z) : (Jvm.Cond.fieldLink "java/lang/String" (38 : Nat) "java/lang/String" "COMPACT_STRINGS" "Z").before a0 Z = true := hw _ (List.mem_of_getElem? (i := 15) rfl)
theorem w16 {a0 : Array Value} {Z : State} (hw : Hw a0 Z) : (Jvm.Cond.methodLink "java/lang/String" (177 : Nat) ({ cls := "java/lang/StringUTF16", name := "compress", desc := "([CII)[B" } : Jvm.MethodName)).before a0 Z = true := hw _ (List.mem_of_getElem? (i := 16) rfl)
theorem w17 {a0 : Array Value} {Z : State} (hw : Hw a0 Z) : (Jvm.Cond.static ({ cls := "java/lang/StringUTF16", name := "compress", desc := "([CII)[B" } : Jvm.MethodName)).before a0 Z = true := hw _ (List.mem_of_getElem? (i := 17) rfl)
theorem w18 {a0 : Array Value} {Z : State} (hw : Hw a0 Z) : (Jvm.Cond.initialized "java/lang/StringUTF16").before a0 Z = true := hw _ (List.mem_of_getElem? (i := 18) rfl)
theorem w19 {a0 : Array Value} {Z : State} (hw : Hw a0 Z) : (Jvm.Cond.code ({ cls := "java/lang/StringUTF16", name := "compress", desc := "([CII)[B" } : Jvm.MethodName) jdk_52_method_16_code (6 : Nat) (Option.some (Jvm.ClassFile.FieldType.array Jvm.ClassFile.FieldType.byte))).before a0 Z = true := hw _ (List.mem_of_getElem? (i := 19) rfl)
theorem w20 {a0 : Array Value} {Z : State} (hw : Hw a0 Z) : (Jvm.Cond.arrayClass Jvm.ClassFile.FieldType.byte).before a0 Z = true := hw _ (List.mem_of_getElem? (i := 20) rfl)
theorem w21 {a0 : Array Value} {Z : State} (hw : Hw a0 Z) : (Jvm.Cond.methodLink "java/lang/StringUTF16" (115 : Nat) ({ cls := "java/lang/StringUTF16", name := "compress", desc := "([CI[BII)I" } : Jvm.MethodName)).before a0 Z = true := hw _ (List.mem_of_getElem? (i := 21) rfl)
theorem w22 {a0 : Array Value} {Z : State} (hw : Hw a0 Z) : (Jvm.Cond.static ({ cls := "java/lang/StringUTF16", name := "compress", desc := "([CI[BII)I" } : Jvm.MethodName)).before a0 Z = true := hw _ (List.mem_of_getElem? (i := 22) rfl)
theorem w23 {a0 : Array Value} {Z : State} (hw : Hw a0 Z) : (Jvm.Cond.code ({ cls := "java/lang/StringUTF16", name := "compress", desc := "([CI[BII)I" } : Jvm.MethodName) jdk_52_method_21_code (7 : Nat) (Option.some Jvm.ClassFile.FieldType.int)).before a0 Z = true := hw _ (List.mem_of_getElem? (i := 23) rfl)
theorem w24 {a0 : Array Value} {Z : State} (hw : Hw a0 Z) : (Jvm.Cond.methodLink "java/lang/String" (47 : Nat) ({ cls := "java/lang/StringUTF16", name := "coderFromArrayLen", desc := "([BI)B" } : Jvm.MethodName)).before a0 Z = true := hw _ (List.mem_of_getElem? (i := 24) rfl)
theorem w25 {a0 : Array Value} {Z : State} (hw : Hw a0 Z) : (Jvm.Cond.static ({ cls := "java/lang/StringUTF16", name := "coderFromArrayLen", desc := "([BI)B" } : Jvm.MethodName)).before a0 Z = true := hw _ (List.mem_of_getElem? (i := 25) rfl)
theorem w26 {a0 : Array Value} {Z : State} (hw : Hw a0 Z) : (Jvm.Cond.code ({ cls := "java/lang/StringUTF16", name := "coderFromArrayLen", desc := "([BI)B" } : Jvm.MethodName) jdk_52_method_15_code (2 : Nat) (Option.some Jvm.ClassFile.FieldType.byte)).before a0 Z = true := hw _ (List.mem_of_getElem? (i := 26) rfl)
theorem w27 {a0 : Array Value} {Z : State} (hw : Hw a0 Z) : (Jvm.Cond.fieldLink "java/lang/String" (15 : Nat) "java/lang/String" "coder" "B").before a0 Z = true := hw _ (List.mem_of_getElem? (i := 27) rfl)
theorem w28 {a0 : Array Value} {Z : State} (hw : Hw a0 Z) : (Jvm.Cond.laysFinal "java/lang/String" "java/lang/String" "coder" "B").before a0 Z = true := hw _ (List.mem_of_getElem? (i := 28) rfl)
theorem w29 {a0 : Array Value} {Z : State} (hw : Hw a0 Z) : (Jvm.Cond.fieldLink "java/lang/String" (9 : Nat) "java/lang/String" "value" "[B").before a0 Z = true := hw _ (List.mem_of_getElem? (i := 29) rfl)
theorem w30 {a0 : Array Value} {Z : State} (hw : Hw a0 Z) : (Jvm.Cond.laysFinal "java/lang/String" "java/lang/String" "value" "[B").before a0 Z = true := hw _ (List.mem_of_getElem? (i := 30) rfl)
theorem w31 {a0 : Array Value} {Z : State} (hw : Hw a0 Z) : (Jvm.Cond.classLink "com/example/exdate/exdate/cli/RowsReadLinePinLaw" (13 : Nat) "com/example/exdate/exdate/cli/RowsRead").before a0 Z = true := hw _ (List.mem_of_getElem? (i := 31) rfl)
theorem w32 {a0 : Array Value} {Z : State} (hw : Hw a0 Z) : (Jvm.Cond.instantiable "com/example/exdate/exdate/cli/RowsRead" (2 : Nat)).before a0 Z = true := hw _ (List.mem_of_getElem? (i := 32) rfl)
theorem w33 {a0 : Array Value} {Z : State} (hw : Hw a0 Z) : (Jvm.Cond.initialized "com/example/exdate/exdate/cli/RowsRead").before a0 Z = true := hw _ (List.mem_of_getElem? (i := 33) rfl)
theorem w34 {a0 : Array Value} {Z : State} (hw : Hw a0 Z) : (Jvm.Cond.methodLink "com/example/exdate/exdate/cli/RowsReadLinePinLaw" (15 : Nat) ({ cls := "com/example/exdate/exdate/cli/RowsRead", name := "<init>", desc := "()V" } : Jvm.MethodName)).before a0 Z = true := hw _ (List.mem_of_getElem? (i := 34) rfl)
theorem w35 {a0 : Array Value} {Z : State} (hw : Hw a0 Z) : (Jvm.Cond.instanceMethod ({ cls := "com/example/exdate/exdate/cli/RowsRead", name := "<init>", desc := "()V" } : Jvm.MethodName)).before a0 Z = true := hw _ (List.mem_of_getElem? (i := 35) rfl)
theorem w36 {a0 : Array Value} {Z : State} (hw : Hw a0 Z) : (Jvm.Cond.code ({ cls := "com/example/exdate/exdate/cli/RowsRead", name := "<init>", desc := "()V" } : Jvm.MethodName) prog_89_method_1_code (1 : Nat) (Option.none : Option Jvm.ClassFile.FieldType)).before a0 Z = true := hw _ (List.mem_of_getElem? (i := 36) rfl)
theorem w37 {a0 : Array Value} {Z : State} (hw : Hw a0 Z) : (Jvm.Cond.methodLink "com/example/exdate/exdate/cli/RowsRead" (1 : Nat) ({ cls := "java/lang/Object", name := "<init>", desc := "()V" } : Jvm.MethodName)).before a0 Z = true := hw _ (List.mem_of_getElem? (i := 37) rfl)
theorem w38 {a0 : Array Value} {Z : State} (hw : Hw a0 Z) : (Jvm.Cond.classLink "com/example/exdate/exdate/cli/RowsRead" (7 : Nat) "java/util/ArrayList").before a0 Z = true := hw _ (List.mem_of_getElem? (i := 38) rfl)
theorem w39 {a0 : Array Value} {Z : State} (hw : Hw a0 Z) : (Jvm.Cond.instantiable "java/util/ArrayList" (3 : Nat)).before a0 Z = true := hw _ (List.mem_of_getElem? (i := 39) rfl)
theorem w40 {a0 : Array Value} {Z : State} (hw : Hw a0 Z) : (Jvm.Cond.initialized "java/util/ArrayList").before a0 Z = true := hw _ (List.mem_of_getElem? (i := 40) rfl)
theorem w41 {a0 : Array Value} {Z : State} (hw : Hw a0 Z) : (Jvm.Cond.methodLink "com/example/exdate/exdate/cli/RowsRead" (9 : Nat) ({ cls := "java/util/ArrayList", name := "<init>", desc := "()V" } : Jvm.MethodName)).before a0 Z = true := hw _ (List.mem_of_getElem? (i := 41) rfl)
theorem w42 {a0 : Array Value} {Z : State} (hw : Hw a0 Z) : (Jvm.Cond.instanceMethod ({ cls := "java/util/ArrayList", name := "<init>", desc := "()V" } : Jvm.MethodName)).before a0 Z = true := hw _ (List.mem_of_getElem? (i := 42) rfl)
theorem w43 {a0 : Array Value} {Z : State} (hw : Hw a0 Z) : (Jvm.Cond.code ({ cls := "java/util/ArrayList", name := "<init>", desc := "()V" } : Jvm.MethodName) jdk_38_method_2_code (1 : Nat) (Option.none : Option Jvm.ClassFile.FieldType)).before a0 Z = true := hw _ (List.mem_of_getElem? (i := 43) rfl)
theorem w44 {a0 : Array Value} {Z : State} (hw : Hw a0 Z) : (Jvm.Cond.methodLink "java/util/ArrayList" (1 : Nat) ({ cls := "java/util/AbstractList", name := "<init>", desc := "()V" } : Jvm.MethodName)).before a0 Z = true := hw _ (List.mem_of_getElem? (i := 44) rfl)
theorem w45 {a0 : Array Value} {Z : State} (hw : Hw a0 Z) : (Jvm.Cond.instanceMethod ({ cls := "java/util/AbstractList", name := "<init>", desc := "()V" } : Jvm.MethodName)).before a0 Z = true := hw _ (List.mem_of_getElem? (i := 45) rfl)
theorem w48 {a0 : Array Value} {Z : State} (hw : Hw a0 Z) : (Jvm.Cond.initialized "java/util/AbstractList").before a0 Z = true := hw _ (List.mem_of_getElem? (i := 48) rfl)
theorem w49 {a0 : Array Value} {Z : State} (hw : Hw a0 Z) : (Jvm.Cond.code ({ cls := "java/util/AbstractList", name := "<init>", desc := "()V" } : Jvm.MethodName) jdk_39_method_1_code (1 : Nat) (Option.none : Option Jvm.ClassFile.FieldType)).before a0 Z = true := hw _ (List.mem_of_getElem? (i := 49) rfl)
theorem w50 {a0 : Array Value} {Z : State} (hw : Hw a0 Z) : (Jvm.Cond.methodLink "java/util/AbstractList" (1 : Nat) ({ cls := "java/util/AbstractCollection", name := "<init>", desc := "()V" } : Jvm.MethodName)).before a0 Z = true := hw _ (List.mem_of_getElem? (i := 50) rfl)
theorem w51 {a0 : Array Value} {Z : State} (hw : Hw a0 Z) : (Jvm.Cond.instanceMethod ({ cls := "java/util/AbstractCollection", name := "<init>", desc := "()V" } : Jvm.MethodName)).before a0 Z = true := hw _ (List.mem_of_getElem? (i := 51) rfl)
theorem w54 {a0 : Array Value} {Z : State} (hw : Hw a0 Z) : (Jvm.Cond.initialized "java/util/AbstractCollection").before a0 Z = true := hw _ (List.mem_of_getElem? (i := 54) rfl)
theorem w55 {a0 : Array Value} {Z : State} (hw : Hw a0 Z) : (Jvm.Cond.code ({ cls := "java/util/AbstractCollection", name := "<init>", desc := "()V" } : Jvm.MethodName) jdk_22_method_1_code (1 : Nat) (Option.none : Option Jvm.ClassFile.FieldType)).before a0 Z = true := hw _ (List.mem_of_getElem? (i := 55) rfl)
theorem w56 {a0 : Array Value} {Z : State} (hw : Hw a0 Z) : (Jvm.Cond.methodLink "java/util/AbstractCollection" (1 : Nat) ({ cls := "java/lang/Object", name := "<init>", desc := "()V" } : Jvm.MethodName)).before a0 Z = true := hw _ (List.mem_of_getElem? (i := 56) rfl)
theorem w57 {a0 : Array Value} {Z : State} (hw : Hw a0 Z) : (Jvm.Cond.fieldLink "java/util/AbstractList" (7 : Nat) "java/util/AbstractList" "modCount" "I").before a0 Z = true := hw _ (List.mem_of_getElem? (i := 57) rfl)
theorem w58 {a0 : Array Value} {Z : State} (hw : Hw a0 Z) : (Jvm.Cond.lays "java/util/ArrayList" "java/util/AbstractList" "modCount" "I").before a0 Z = true := hw _ (List.mem_of_getElem? (i := 58) rfl)
theorem w59 {a0 : Array Value} {Z : State} (hw : Hw a0 Z) : (Jvm.Cond.fieldLink "java/util/ArrayList" (39 : Nat) "java/util/ArrayList" "DEFAULTCAPACITY_EMPTY_ELEMENTDATA" "[Ljava/lang/Object;").before a0 Z = true := hw _ (List.mem_of_getElem? (i := 59) rfl)
theorem w60 {a0 : Array Value} {Z : State} (hw : Hw a0 Z) : (Jvm.Cond.fieldLink "java/util/ArrayList" (9 : Nat) "java/util/ArrayList" "elementData" "[Ljava/lang/Object;").before a0 Z = true := hw _ (List.mem_of_getElem? (i := 60) rfl)
theorem w61 {a0 : Array Value} {Z : State} (hw : Hw a0 Z) : (Jvm.Cond.lays "java/util/ArrayList" "java/util/ArrayList" "elementData" "[Ljava/lang/Object;").before a0 Z = true := hw _ (List.mem_of_getElem? (i := 61) rfl)
theorem w62 {a0 : Array Value} {Z : State} (hw : Hw a0 Z) : (Jvm.Cond.fieldLink "com/example/exdate/exdate/cli/RowsRead" (10 : Nat) "com/example/exdate/exdate/cli/RowsRead" "made" "Ljava/util/List;").before a0 Z = true := hw _ (List.mem_of_getElem? (i := 62) rfl)
theorem w63 {a0 : Array Value} {Z : State} (hw : Hw a0 Z) : (Jvm.Cond.laysFinal "com/example/exdate/exdate/cli/RowsRead" "com/example/exdate/exdate/cli/RowsRead" "made" "Ljava/util/List;").before a0 Z = true := hw _ (List.mem_of_getElem? (i := 63) rfl)
theorem w64 {a0 : Array Value} {Z : State} (hw : Hw a0 Z) : (Jvm.Cond.arrayClass Jvm.ClassFile.FieldType.long).before a0 Z = true := hw _ (List.mem_of_getElem? (i := 64) rfl)
theorem w65 {a0 : Array Value} {Z : State} (hw : Hw a0 Z) : (Jvm.Cond.fieldLink "com/example/exdate/exdate/cli/RowsRead" (16 : Nat) "com/example/exdate/exdate/cli/RowsRead" "lines" "[J").before a0 Z = true := hw _ (List.mem_of_getElem? (i := 65) rfl)
theorem w66 {a0 : Array Value} {Z : State} (hw : Hw a0 Z) : (Jvm.Cond.lays "com/example/exdate/exdate/cli/RowsRead" "com/example/exdate/exdate/cli/RowsRead" "lines" "[J").before a0 Z = true := hw _ (List.mem_of_getElem? (i := 66) rfl)
theorem w67 {a0 : Array Value} {Z : State} (hw : Hw a0 Z) : (Jvm.Cond.methodLink "com/example/exdate/exdate/cli/RowsReadLinePinLaw" (16 : Nat) ({ cls := "com/example/exdate/exdate/cli/RowsRead", name := "add", desc := "(Ljava/lang/Object;J)V" } : Jvm.MethodName)).before a0 Z = true := hw _ (List.mem_of_getElem? (i := 67) rfl)
theorem w68 {a0 : Array Value} {Z : State} (hw : Hw a0 Z) : (Jvm.Cond.declares ({ cls := "com/example/exdate/exdate/cli/RowsRead", name := "add", desc := "(Ljava/lang/Object;J)V" } : Jvm.MethodName)).before a0 Z = true := hw _ (List.mem_of_getElem? (i := 68) rfl)
theorem w69 {a0 : Array Value} {Z : State} (hw : Hw a0 Z) : (Jvm.Cond.instanceMethod ({ cls := "com/example/exdate/exdate/cli/RowsRead", name := "add", desc := "(Ljava/lang/Object;J)V" } : Jvm.MethodName)).before a0 Z = true := hw _ (List.mem_of_getElem? (i := 69) rfl)
theorem w70 {a0 : Array Value} {Z : State} (hw : Hw a0 Z) : (Jvm.Cond.selects "com/example/exdate/exdate/cli/RowsRead" ({ cls := "com/example/exdate/exdate/cli/RowsRead", name := "add", desc := "(Ljava/lang/Object;J)V" } : Jvm.MethodName) ({ cls := "com/example/exdate/exdate/cli/RowsRead", name := "add", desc := "(Ljava/lang/Object;J)V" } : Jvm.MethodName)).before a0 Z = true := hw _ (List.mem_of_getElem? (i := 70) rfl)
theorem w71 {a0 : Array Value} {Z : State} (hw : Hw a0 Z) : (Jvm.Cond.code ({ cls := "com/example/exdate/exdate/cli/RowsRead", name := "add", desc := "(Ljava/lang/Object;J)V" } : Jvm.MethodName) prog_89_method_2_code (4 : Nat) (Option.none : Option Jvm.ClassFile.FieldType)).before a0 Z = true := hw _ (List.mem_of_getElem? (i := 71) rfl)
theorem w72 {a0 : Array Value} {Z : State} (hw : Hw a0 Z) : (Jvm.Cond.methodLink "com/example/exdate/exdate/cli/RowsRead" (20 : Nat) ({ cls := "java/util/List", name := "size", desc := "()I" } : Jvm.MethodName)).before a0 Z = true := hw _ (List.mem_of_getElem? (i := 72) rfl)
theorem w73 {a0 : Array Value} {Z : State} (hw : Hw a0 Z) : (Jvm.Cond.declares ({ cls := "java/util/List", name := "size", desc := "()I" } : Jvm.MethodName)).before a0 Z = true := hw _ (List.mem_of_getElem? (i := 73) rfl)
theorem w74 {a0 : Array Value} {Z : State} (hw : Hw a0 Z) : (Jvm.Cond.interfaceMethod "java/util/List" "java/util/List" "size" "()I").before a0 Z = true := hw _ (List.mem_of_getElem? (i := 74) rfl)
theorem w75 {a0 : Array Value} {Z : State} (hw : Hw a0 Z) : (Jvm.Cond.selects "java/util/ArrayList" ({ cls := "java/util/List", name := "size", desc := "()I" } : Jvm.MethodName) ({ cls := "java/util/ArrayList", name := "size", desc := "()I" } : Jvm.MethodName)).before a0 Z = true := hw _ (List.mem_of_getElem? (i := 75) rfl)
theorem w76 {a0 : Array Value} {Z : State} (hw : Hw a0 Z) : (Jvm.Cond.instanceMethod ({ cls := "java/util/ArrayList", name := "size", desc := "()I" } : Jvm.MethodName)).before a0 Z = true := hw _ (List.mem_of_getElem? (i := 76) rfl)
theorem w77 {a0 : Array Value} {Z : State} (hw : Hw a0 Z) : (Jvm.Cond.publicMethod ({ cls := "java/util/ArrayList", name := "size", desc := "()I" } : Jvm.MethodName)).before a0 Z = true := hw _ (List.mem_of_getElem? (i := 77) rfl)
theorem w78 {a0 : Array Value} {Z : State} (hw : Hw a0 Z) : (Jvm.Cond.unhidden "java/util/ArrayList" "size" "()I").before a0 Z = true := hw _ (List.mem_of_getElem? (i := 78) rfl)
theorem w79 {a0 : Array Value} {Z : State} (hw : Hw a0 Z) : (Jvm.Cond.castable "java/util/ArrayList" "java/util/List").before a0 Z = true := hw _ (List.mem_of_getElem? (i := 79) rfl)
theorem w80 {a0 : Array Value} {Z : State} (hw : Hw a0 Z) : (Jvm.Cond.code ({ cls := "java/util/ArrayList", name := "size", desc := "()I" } : Jvm.MethodName) jdk_38_method_8_code (1 : Nat) (Option.some Jvm.ClassFile.FieldType.int)).before a0 Z = true := hw _ (List.mem_of_getElem? (i := 80) rfl)
theorem w81 {a0 : Array Value} {Z : State} (hw : Hw a0 Z) : (Jvm.Cond.fieldLink "java/util/ArrayList" (48 : Nat) "java/util/ArrayList" "size" "I").before a0 Z = true := hw _ (List.mem_of_getElem? (i := 81) rfl)
theorem w82 {a0 : Array Value} {Z : State} (hw : Hw a0 Z) : (Jvm.Cond.lays "java/util/ArrayList" "java/util/ArrayList" "size" "I").before a0 Z = true := hw _ (List.mem_of_getElem? (i := 82) rfl)
theorem w83 {a0 : Array Value} {Z : State} (hw : Hw a0 Z) : (Jvm.Cond.methodLink "com/example/exdate/exdate/cli/RowsRead" (32 : Nat) ({ cls := "java/util/List", name := "add", desc := "(Ljava/lang/Object;)Z" } : Jvm.MethodName)).before a0 Z = true := hw _ (List.mem_of_getElem? (i := 83) rfl)
theorem w84 {a0 : Array Value} {Z : State} (hw : Hw a0 Z) : (Jvm.Cond.declares ({ cls := "java/util/List", name := "add", desc := "(Ljava/lang/Object;)Z" } : Jvm.MethodName)).before a0 Z = true := hw _ (List.mem_of_getElem? (i := 84) rfl)
theorem w85 {a0 : Array Value} {Z : State} (hw : Hw a0 Z) : (Jvm.Cond.interfaceMethod "java/util/List" "java/util/List" "add" "(Ljava/lang/Object;)Z").before a0 Z = true := hw _ (List.mem_of_getElem? (i := 85) rfl)
theorem w86 {a0 : Array Value} {Z : State} (hw : Hw a0 Z) : (Jvm.Cond.selects "java/util/ArrayList" ({ cls := "java/util/List", name := "add", desc := "(Ljava/lang/Object;)Z" } : Jvm.MethodName) ({ cls := "java/util/ArrayList", name := "add", desc := "(Ljava/lang/Object;)Z" } : Jvm.MethodName)).before a0 Z = true := hw _ (List.mem_of_getElem? (i := 86) rfl)
theorem w87 {a0 : Array Value} {Z : State} (hw : Hw a0 Z) : (Jvm.Cond.instanceMethod ({ cls := "java/util/ArrayList", name := "add", desc := "(Ljava/lang/Object;)Z" } : Jvm.MethodName)).before a0 Z = true := hw _ (List.mem_of_getElem? (i := 87) rfl)
theorem w88 {a0 : Array Value} {Z : State} (hw : Hw a0 Z) : (Jvm.Cond.publicMethod ({ cls := "java/util/ArrayList", name := "add", desc := "(Ljava/lang/Object;)Z" } : Jvm.MethodName)).before a0 Z = true := hw _ (List.mem_of_getElem? (i := 88) rfl)
theorem w89 {a0 : Array Value} {Z : State} (hw : Hw a0 Z) : (Jvm.Cond.unhidden "java/util/ArrayList" "add" "(Ljava/lang/Object;)Z").before a0 Z = true := hw _ (List.mem_of_getElem? (i := 89) rfl)
theorem w90 {a0 : Array Value} {Z : State} (hw : Hw a0 Z) : (Jvm.Cond.code ({ cls := "java/util/ArrayList", name := "add", desc := "(Ljava/lang/Object;)Z" } : Jvm.MethodName) jdk_38_method_25_code (2 : Nat) (Option.some Jvm.ClassFile.FieldType.boolean)).before a0 Z = true := hw _ (List.mem_of_getElem? (i := 90) rfl)
theorem w91 {a0 : Array Value} {Z : State} (hw : Hw a0 Z) : (Jvm.Cond.fieldLink "java/util/ArrayList" (63 : Nat) "java/util/ArrayList" "modCount" "I").before a0 Z = true := hw _ (List.mem_of_getElem? (i := 91) rfl)
theorem w92 {a0 : Array Value} {Z : State} (hw : Hw a0 Z) : (Jvm.Cond.sameField "java/util/ArrayList" "java/util/AbstractList" "modCount" "I").before a0 Z = true := hw _ (List.mem_of_getElem? (i := 92) rfl)
theorem w93 {a0 : Array Value} {Z : State} (hw : Hw a0 Z) : (Jvm.Cond.methodLink "java/util/ArrayList" (131 : Nat) ({ cls := "java/util/ArrayList", name := "add", desc := "(Ljava/lang/Object;[Ljava/lang/Object;I)V" } : Jvm.MethodName)).before a0 Z = true := hw _ (List.mem_of_getElem? (i := 93) rfl)
theorem w94 {a0 : Array Value} {Z : State} (hw : Hw a0 Z) : (Jvm.Cond.instanceMethod ({ cls := "java/util/ArrayList", name := "add", desc := "(Ljava/lang/Object;[Ljava/lang/Object;I)V" } : Jvm.MethodName)).before a0 Z = true := hw _ (List.mem_of_getElem? (i := 94) rfl)
theorem w95 {a0 : Array Value} {Z : State} (hw : Hw a0 Z) : (Jvm.Cond.privateMethod ({ cls := "java/util/ArrayList", name := "add", desc := "(Ljava/lang/Object;[Ljava/lang/Object;I)V" } : Jvm.MethodName)).before a0 Z = true := hw _ (List.mem_of_getElem? (i := 95) rfl)
theorem w96 {a0 : Array Value} {Z : State} (hw : Hw a0 Z) : (Jvm.Cond.selects "java/util/ArrayList" ({ cls := "java/util/ArrayList", name := "add", desc := "(Ljava/lang/Object;[Ljava/lang/Object;I)V" } : Jvm.MethodName) ({ cls := "java/util/ArrayList", name := "add", desc := "(Ljava/lang/Object;[Ljava/lang/Object;I)V" } : Jvm.MethodName)).before a0 Z = true := hw _ (List.mem_of_getElem? (i := 96) rfl)
theorem w97 {a0 : Array Value} {Z : State} (hw : Hw a0 Z) : (Jvm.Cond.code ({ cls := "java/util/ArrayList", name := "add", desc := "(Ljava/lang/Object;[Ljava/lang/Object;I)V" } : Jvm.MethodName) jdk_38_method_24_code (4 : Nat) (Option.none : Option Jvm.ClassFile.FieldType)).before a0 Z = true := hw _ (List.mem_of_getElem? (i := 97) rfl)
theorem w98 {a0 : Array Value} {Z : State} (hw : Hw a0 Z) : (Jvm.Cond.methodLink "java/util/ArrayList" (129 : Nat) ({ cls := "java/util/ArrayList", name := "grow", desc := "()[Ljava/lang/Object;" } : Jvm.MethodName)).before a0 Z = true := hw _ (List.mem_of_getElem? (i := 98) rfl)
theorem w99 {a0 : Array Value} {Z : State} (hw : Hw a0 Z) : (Jvm.Cond.instanceMethod ({ cls := "java/util/ArrayList", name := "grow", desc := "()[Ljava/lang/Object;" } : Jvm.MethodName)).before a0 Z = true := hw _ (List.mem_of_getElem? (i := 99) rfl)
theorem w100 {a0 : Array Value} {Z : State} (hw : Hw a0 Z) : (Jvm.Cond.privateMethod ({ cls := "java/util/ArrayList", name := "grow", desc := "()[Ljava/lang/Object;" } : Jvm.MethodName)).before a0 Z = true := hw _ (List.mem_of_getElem? (i := 100) rfl)
theorem w101 {a0 : Array Value} {Z : State} (hw : Hw a0 Z) : (Jvm.Cond.selects "java/util/ArrayList" ({ cls := "java/util/ArrayList", name := "grow", desc := "()[Ljava/lang/Object;" } : Jvm.MethodName) ({ cls := "java/util/ArrayList", name := "grow", desc := "()[Ljava/lang/Object;" } : Jvm.MethodName)).before a0 Z = true := hw _ (List.mem_of_getElem? (i := 101) rfl)
theorem w102 {a0 : Array Value} {Z : State} (hw : Hw a0 Z) : (Jvm.Cond.code ({ cls := "java/util/ArrayList", name := "grow", desc := "()[Ljava/lang/Object;" } : Jvm.MethodName) jdk_38_method_7_code (1 : Nat) (Option.some (Jvm.ClassFile.FieldType.array (Jvm.ClassFile.FieldType.object "java/lang/Object")))).before a0 Z = true := hw _ (List.mem_of_getElem? (i := 102) rfl)
theorem w103 {a0 : Array Value} {Z : State} (hw : Hw a0 Z) : (Jvm.Cond.methodLink "java/util/ArrayList" (69 : Nat) ({ cls := "java/util/ArrayList", name := "grow", desc := "(I)[Ljava/lang/Object;" } : Jvm.MethodName)).before a0 Z = true := hw _ (List.mem_of_getElem? (i := 103) rfl)
theorem w104 {a0 : Array Value} {Z : State} (hw : Hw a0 Z) : (Jvm.Cond.instanceMethod ({ cls := "java/util/ArrayList", name := "grow", desc := "(I)[Ljava/lang/Object;" } : Jvm.MethodName)).before a0 Z = true := hw _ (List.mem_of_getElem? (i := 104) rfl)
theorem w105 {a0 : Array Value} {Z : State} (hw : Hw a0 Z) : (Jvm.Cond.privateMethod ({ cls := "java/util/ArrayList", name := "grow", desc := "(I)[Ljava/lang/Object;" } : Jvm.MethodName)).before a0 Z = true := hw _ (List.mem_of_getElem? (i := 105) rfl)
theorem w106 {a0 : Array Value} {Z : State} (hw : Hw a0 Z) : (Jvm.Cond.selects "java/util/ArrayList" ({ cls := "java/util/ArrayList", name := "grow", desc := "(I)[Ljava/lang/Object;" } : Jvm.MethodName) ({ cls := "java/util/ArrayList", name := "grow", desc := "(I)[Ljava/lang/Object;" } : Jvm.MethodName)).before a0 Z = true := hw _ (List.mem_of_getElem? (i := 106) rfl)
theorem w107 {a0 : Array Value} {Z : State} (hw : Hw a0 Z) : (Jvm.Cond.code ({ cls := "java/util/ArrayList", name := "grow", desc := "(I)[Ljava/lang/Object;" } : Jvm.MethodName) jdk_38_method_6_code (4 : Nat) (Option.some (Jvm.ClassFile.FieldType.array (Jvm.ClassFile.FieldType.object "java/lang/Object")))).before a0 Z = true := hw _ (List.mem_of_getElem? (i := 107) rfl)
theorem w108 {a0 : Array Value} {Z : State} (hw : Hw a0 Z) : (Jvm.Cond.methodLink "java/util/ArrayList" (79 : Nat) ({ cls := "java/lang/Math", name := "max", desc := "(II)I" } : Jvm.MethodName)).before a0 Z = true := hw _ (List.mem_of_getElem? (i := 108) rfl)
theorem w109 {a0 : Array Value} {Z : State} (hw : Hw a0 Z) : (Jvm.Cond.static ({ cls := "java/lang/Math", name := "max", desc := "(II)I" } : Jvm.MethodName)).before a0 Z = true := hw _ (List.mem_of_getElem? (i := 109) rfl)
theorem w110 {a0 : Array Value} {Z : State} (hw : Hw a0 Z) : (Jvm.Cond.initialized "java/lang/Math").before a0 Z = true := hw _ (List.mem_of_getElem? (i := 110) rfl)
theorem w111 {a0 : Array Value} {Z : State} (hw : Hw a0 Z) : (Jvm.Cond.code ({ cls := "java/lang/Math", name := "max", desc := "(II)I" } : Jvm.MethodName) jdk_29_method_65_code (2 : Nat) (Option.some Jvm.ClassFile.FieldType.int)).before a0 Z = true := hw _ (List.mem_of_getElem? (i := 111) rfl)
theorem w112 {a0 : Array Value} {Z : State} (hw : Hw a0 Z) : (Jvm.Cond.classLink "java/util/ArrayList" (7 : Nat) "java/lang/Object").before a0 Z = true := hw _ (List.mem_of_getElem? (i := 112) rfl)
theorem w113 {a0 : Array Value} {Z : State} (hw : Hw a0 Z) : (Jvm.Cond.arrayOver (Jvm.ClassFile.FieldType.object "java/lang/Object")).before a0 Z = true := hw _ (List.mem_of_getElem? (i := 113) rfl)
theorem w114 {a0 : Array Value} {Z : State} (hw : Hw a0 Z) : (Jvm.Cond.castable "java/lang/String" "java/lang/Object").before a0 Z = true := hw _ (List.mem_of_getElem? (i := 114) rfl)
theorem w115 {a0 : Array Value} {Z : State} (hw : Hw a0 Z) : (Jvm.Cond.constant "com/example/exdate/exdate/cli/RowsReadLinePinLaw" (20 : Nat) (2147483647 : Int32)).before a0 Z = true := hw _ (List.mem_of_getElem? (i := 115) rfl)
theorem w116 {a0 : Array Value} {Z : State} (hw : Hw a0 Z) : (Jvm.Cond.methodLink "com/example/exdate/exdate/cli/RowsReadLinePinLaw" (21 : Nat) ({ cls := "com/example/exdate/exdate/cli/RowsRead", name := "line", desc := "(Ljava/lang/Object;)J" } : Jvm.MethodName)).before a0 Z = true := hw _ (List.mem_of_getElem? (i := 116) rfl)
theorem w117 {a0 : Array Value} {Z : State} (hw : Hw a0 Z) : (Jvm.Cond.declares ({ cls := "com/example/exdate/exdate/cli/RowsRead", name := "line", desc := "(Ljava/lang/Object;)J" } : Jvm.MethodName)).before a0 Z = true := hw _ (List.mem_of_getElem? (i := 117) rfl)
theorem w118 {a0 : Array Value} {Z : State} (hw : Hw a0 Z) : (Jvm.Cond.instanceMethod ({ cls := "com/example/exdate/exdate/cli/RowsRead", name := "line", desc := "(Ljava/lang/Object;)J" } : Jvm.MethodName)).before a0 Z = true := hw _ (List.mem_of_getElem? (i := 118) rfl)
theorem w119 {a0 : Array Value} {Z : State} (hw : Hw a0 Z) : (Jvm.Cond.selects "com/example/exdate/exdate/cli/RowsRead" ({ cls := "com/example/exdate/exdate/cli/RowsRead", name := "line", desc := "(Ljava/lang/Object;)J" } : Jvm.MethodName) ({ cls := "com/example/exdate/exdate/cli/RowsRead", name := "line", desc := "(Ljava/lang/Object;)J" } : Jvm.MethodName)).before a0 Z = true := hw _ (List.mem_of_getElem? (i := 119) rfl)
theorem w120 {a0 : Array Value} {Z : State} (hw : Hw a0 Z) : (Jvm.Cond.code ({ cls := "com/example/exdate/exdate/cli/RowsRead", name := "line", desc := "(Ljava/lang/Object;)J" } : Jvm.MethodName) prog_89_method_4_code (3 : Nat) (Option.some Jvm.ClassFile.FieldType.long)).before a0 Z = true := hw _ (List.mem_of_getElem? (i := 120) rfl)
theorem w121 {a0 : Array Value} {Z : State} (hw : Hw a0 Z) : (Jvm.Cond.methodLink "com/example/exdate/exdate/cli/RowsRead" (42 : Nat) ({ cls := "java/util/List", name := "get", desc := "(I)Ljava/lang/Object;" } : Jvm.MethodName)).before a0 Z = true := hw _ (List.mem_of_getElem? (i := 121) rfl)
theorem w122 {a0 : Array Value} {Z : State} (hw : Hw a0 Z) : (Jvm.Cond.declares ({ cls := "java/util/List", name := "get", desc := "(I)Ljava/lang/Object;" } : Jvm.MethodName)).before a0 Z = true := hw _ (List.mem_of_getElem? (i := 122) rfl)
theorem w123 {a0 : Array Value} {Z : State} (hw : Hw a0 Z) : (Jvm.Cond.interfaceMethod "java/util/List" "java/util/List" "get" "(I)Ljava/lang/Object;").before a0 Z = true := hw _ (List.mem_of_getElem? (i := 123) rfl)
theorem w124 {a0 : Array Value} {Z : State} (hw : Hw a0 Z) : (Jvm.Cond.selects "java/util/ArrayList" ({ cls := "java/util/List", name := "get", desc := "(I)Ljava/lang/Object;" } : Jvm.MethodName) ({ cls := "java/util/ArrayList", name := "get", desc := "(I)Ljava/lang/Object;" } : Jvm.MethodName)).before a0 Z = true := hw _ (List.mem_of_getElem? (i := 124) rfl)
theorem w125 {a0 : Array Value} {Z : State} (hw : Hw a0 Z) : (Jvm.Cond.instanceMethod ({ cls := "java/util/ArrayList", name := "get", desc := "(I)Ljava/lang/Object;" } : Jvm.MethodName)).before a0 Z = true := hw _ (List.mem_of_getElem? (i := 125) rfl)
theorem w126 {a0 : Array Value} {Z : State} (hw : Hw a0 Z) : (Jvm.Cond.publicMethod ({ cls := "java/util/ArrayList", name := "get", desc := "(I)Ljava/lang/Object;" } : Jvm.MethodName)).before a0 Z = true := hw _ (List.mem_of_getElem? (i := 126) rfl)
theorem w127 {a0 : Array Value} {Z : State} (hw : Hw a0 Z) : (Jvm.Cond.unhidden "java/util/ArrayList" "get" "(I)Ljava/lang/Object;").before a0 Z = true := hw _ (List.mem_of_getElem? (i := 127) rfl)
theorem w128 {a0 : Array Value} {Z : State} (hw : Hw a0 Z) : (Jvm.Cond.code ({ cls := "java/util/ArrayList", name := "get", desc := "(I)Ljava/lang/Object;" } : Jvm.MethodName) jdk_38_method_20_code (2 : Nat) (Option.some (Jvm.ClassFile.FieldType.object "java/lang/Object"))).before a0 Z = true := hw _ (List.mem_of_getElem? (i := 128) rfl)
theorem w129 {a0 : Array Value} {Z : State} (hw : Hw a0 Z) : (Jvm.Cond.methodLink "java/util/ArrayList" (118 : Nat) ({ cls := "java/util/Objects", name := "checkIndex", desc := "(II)I" } : Jvm.MethodName)).before a0 Z = true := hw _ (List.mem_of_getElem? (i := 129) rfl)
theorem w130 {a0 : Array Value} {Z : State} (hw : Hw a0 Z) : (Jvm.Cond.static ({ cls := "java/util/Objects", name := "checkIndex", desc := "(II)I" } : Jvm.MethodName)).before a0 Z = true := hw _ (List.mem_of_getElem? (i := 130) rfl)
theorem w131 {a0 : Array Value} {Z : State} (hw : Hw a0 Z) : (Jvm.Cond.initialized "java/util/Objects").before a0 Z = true := hw _ (List.mem_of_getElem? (i := 131) rfl)
theorem w132 {a0 : Array Value} {Z : State} (hw : Hw a0 Z) : (Jvm.Cond.code ({ cls := "java/util/Objects", name := "checkIndex", desc := "(II)I" } : Jvm.MethodName) jdk_31_method_17_code (2 : Nat) (Option.some Jvm.ClassFile.FieldType.int)).before a0 Z = true := hw _ (List.mem_of_getElem? (i := 132) rfl)
theorem w133 {a0 : Array Value} {Z : State} (hw : Hw a0 Z) : (Jvm.Cond.methodLink "java/util/Objects" (105 : Nat) ({ cls := "jdk/internal/util/Preconditions", name := "checkIndex", desc := "(IILjava/util/function/BiFunction;)I" } : Jvm.MethodName)).before a0 Z = true := hw _ (List.mem_of_getElem? (i := 133) rfl)
theorem w134 {a0 : Array Value} {Z : State} (hw : Hw a0 Z) : (Jvm.Cond.static ({ cls := "jdk/internal/util/Preconditions", name := "checkIndex", desc := "(IILjava/util/function/BiFunction;)I" } : Jvm.MethodName)).before a0 Z = true := hw _ (List.mem_of_getElem? (i := 134) rfl)
theorem w135 {a0 : Array Value} {Z : State} (hw : Hw a0 Z) : (Jvm.Cond.initialized "jdk/internal/util/Preconditions").before a0 Z = true := hw _ (List.mem_of_getElem? (i := 135) rfl)
theorem w136 {a0 : Array Value} {Z : State} (hw : Hw a0 Z) : (Jvm.Cond.code ({ cls := "jdk/internal/util/Preconditions", name := "checkIndex", desc := "(IILjava/util/function/BiFunction;)I" } : Jvm.MethodName) jdk_41_method_11_code (3 : Nat) (Option.some Jvm.ClassFile.FieldType.int)).before a0 Z = true := hw _ (List.mem_of_getElem? (i := 136) rfl)
theorem w137 {a0 : Array Value} {Z : State} (hw : Hw a0 Z) : (Jvm.Cond.methodLink "java/util/ArrayList" (123 : Nat) ({ cls := "java/util/ArrayList", name := "elementData", desc := "(I)Ljava/lang/Object;" } : Jvm.MethodName)).before a0 Z = true := hw _ (List.mem_of_getElem? (i := 137) rfl)
theorem w138 {a0 : Array Value} {Z : State} (hw : Hw a0 Z) : (Jvm.Cond.declares ({ cls := "java/util/ArrayList", name := "elementData", desc := "(I)Ljava/lang/Object;" } : Jvm.MethodName)).before a0 Z = true := hw _ (List.mem_of_getElem? (i := 138) rfl)
theorem w139 {a0 : Array Value} {Z : State} (hw : Hw a0 Z) : (Jvm.Cond.instanceMethod ({ cls := "java/util/ArrayList", name := "elementData", desc := "(I)Ljava/lang/Object;" } : Jvm.MethodName)).before a0 Z = true := hw _ (List.mem_of_getElem? (i := 139) rfl)
theorem w140 {a0 : Array Value} {Z : State} (hw : Hw a0 Z) : (Jvm.Cond.selects "java/util/ArrayList" ({ cls := "java/util/ArrayList", name := "elementData", desc := "(I)Ljava/lang/Object;" } : Jvm.MethodName) ({ cls := "java/util/ArrayList", name := "elementData", desc := "(I)Ljava/lang/Object;" } : Jvm.MethodName)).before a0 Z = true := hw _ (List.mem_of_getElem? (i := 140) rfl)
theorem w141 {a0 : Array Value} {Z : State} (hw : Hw a0 Z) : (Jvm.Cond.code ({ cls := "java/util/ArrayList", name := "elementData", desc := "(I)Ljava/lang/Object;" } : Jvm.MethodName) jdk_38_method_18_code (2 : Nat) (Option.some (Jvm.ClassFile.FieldType.object "java/lang/Object"))).before a0 Z = true := hw _ (List.mem_of_getElem? (i := 141) rfl)
theorem d_jdk_52_method_15_0 : decode jdk_52_method_15_code 0 = .ok (.iload_n 1, 1) := by decide +kernel
theorem d_jdk_52_method_15_1 : decode jdk_52_method_15_code 1 = .ok (.aload_n 0, 1) := by decide +kernel
theorem d_jdk_52_method_15_2 : decode jdk_52_method_15_code 2 = .ok (.arraylength, 1) := by decide +kernel
theorem d_jdk_52_method_15_3 : decode jdk_52_method_15_code 3 = .ok (.isub, 1) := by decide +kernel
theorem d_jdk_52_method_15_4 : decode jdk_52_method_15_code 4 = .ok (.bipush 31, 2) := by decide +kernel
theorem d_jdk_52_method_15_6 : decode jdk_52_method_15_code 6 = .ok (.iushr, 1) := by decide +kernel
theorem d_jdk_52_method_15_7 : decode jdk_52_method_15_code 7 = .ok (.i2b, 1) := by decide +kernel
theorem d_jdk_52_method_15_8 : decode jdk_52_method_15_code 8 = .ok (.ireturn, 1) := by decide +kernel
theorem pn0 : plainName "java/lang/StringUTF16" = true := by first | (simp [plainName, overriddenIn]; done) | decide +kernel
theorem ef_coderOf {b : Addr} {n : Int32} (m : MethodId) : entryFrame m #[(.ref b), (.int n)] 2 = mkF m 0 #[.val (.ref b), .val (.int n)] [] := by first | (simp [entryFrame, mkF, argsToLocals, Value.category]; done) | rfl
set_option maxRecDepth 65536 in
set_option maxHeartbeats 40000000 in
theorem coderOf {lch : Launch} {Z : State} {a0 : Array Value} {cst : Int32} {dc : Addr} (hw : Hw a0 Z) (hCS : Sta Z Z.heap "java/lang/String" "COMPACT_STRINGS" "Z" (.int cst)) (hcs : ¬ cst = 0) (hD : Sta Z Z.heap "java/util/ArrayList" "DEFAULTCAPACITY_EMPTY_ELEMENTDATA" "[Ljava/lang/Object;" (.ref dc)) (hDA : ∃ c, Z.heap[dc]? = some c ∧ Ary Z (.object "java/lang/Object") [] c) (b : Addr) (vs : List Value) (n : Int32) (hn : vs.length.toInt32 = n) :
    Con lch Z (⟨"java/lang/StringUTF16", "coderFromArrayLen", "([BI)B"⟩ : MethodName) jdk_52_method_15_code 2 (Option.some Jvm.ClassFile.FieldType.byte) ({ frames := 0, cells := 0, slots := 0, locals := 0 } : Room) #[(.ref b), (.int n)] [(b, Ary Z .byte (vs))] []
      (fun rv L1 M1 => rv = some (.int (0 : Int32)) ∧ L1 = [(b, Ary Z .byte (vs))] ∧ M1 = []) := by
  refine Con.of_body (plainFor_of_name pn0) (fun m => ef_coderOf m) ?_
  intro p e s m below meth c T0 h0 C S0
  refine C.iloadN S0 d_jdk_52_method_15_0 1 rfl rfl ?_
  refine C.aloadN S0 d_jdk_52_method_15_1 2 rfl rfl rfl ?_
  refine C.arraylength S0 (S0.at 0 rfl) d_jdk_52_method_15_2 3 rfl n hn ?_
  refine C.isub S0 d_jdk_52_method_15_3 4 rfl (0 : Int32) (Int32.sub_self _) ?_
  refine C.bipush S0 d_jdk_52_method_15_4 6 rfl (31 : Int32) rfl ?_
  refine C.iushr S0 d_jdk_52_method_15_6 7 rfl (0 : Int32) (by decide) ?_
  refine C.i2b S0 d_jdk_52_method_15_7 8 rfl (0 : Int32) (by decide) ?_
  exact C.retN S0 (by simp) d_jdk_52_method_15_8 (0 : Int32) (by decide) [0] rfl (by decide) [] rfl fa0 ⟨rfl, rfl, rfl⟩ rfl (leD rfl) (leD rfl)
theorem d_jdk_52_method_21_0 : decode jdk_52_method_21_code 0 = .ok (.iconst 0, 1) := by decide +kernel
theorem d_jdk_52_method_21_1 : decode jdk_52_method_21_code 1 = .ok (.istore 5, 2) := by decide +kernel
theorem d_jdk_52_method_21_3 : decode jdk_52_method_21_code 3 = .ok (.iload 5, 2) := by decide +kernel
theorem d_jdk_52_method_21_5 : decode jdk_52_method_21_code 5 = .ok (.iload 4, 2) := by decide +kernel
theorem d_jdk_52_method_21_7 : decode jdk_52_method_21_code 7 = .ok (.if_icmp .ge 37, 3) := by decide +kernel
theorem d_jdk_52_method_21_10 : decode jdk_52_method_21_code 10 = .ok (.aload_n 0, 1) := by decide +kernel
theorem d_jdk_52_method_21_11 : decode jdk_52_method_21_code 11 = .ok (.iload_n 1, 1) := by decide +kernel
theorem d_jdk_52_method_21_12 : decode jdk_52_method_21_code 12 = .ok (.caload, 1) := by decide +kernel
theorem d_jdk_52_method_21_13 : decode jdk_52_method_21_code 13 = .ok (.istore 6, 2) := by decide +kernel
theorem d_jdk_52_method_21_15 : decode jdk_52_method_21_code 15 = .ok (.iload 6, 2) := by decide +kernel
theorem d_jdk_52_method_21_17 : decode jdk_52_method_21_code 17 = .ok (.sipush 255, 3) := by decide +kernel
theorem d_jdk_52_method_21_20 : decode jdk_52_method_21_code 20 = .ok (.if_icmp .le 6, 3) := by decide +kernel
theorem d_jdk_52_method_21_26 : decode jdk_52_method_21_code 26 = .ok (.aload_n 2, 1) := by decide +kernel
theorem d_jdk_52_method_21_27 : decode jdk_52_method_21_code 27 = .ok (.iload_n 3, 1) := by decide +kernel
theorem d_jdk_52_method_21_28 : decode jdk_52_method_21_code 28 = .ok (.iload 6, 2) := by decide +kernel
theorem d_jdk_52_method_21_30 : decode jdk_52_method_21_code 30 = .ok (.i2b, 1) := by decide +kernel
theorem d_jdk_52_method_21_31 : decode jdk_52_method_21_code 31 = .ok (.bastore, 1) := by decide +kernel
theorem d_jdk_52_method_21_32 : decode jdk_52_method_21_code 32 = .ok (.iinc 1 1, 3) := by decide +kernel
theorem d_jdk_52_method_21_35 : decode jdk_52_method_21_code 35 = .ok (.iinc 3 1, 3) := by decide +kernel
theorem d_jdk_52_method_21_38 : decode jdk_52_method_21_code 38 = .ok (.iinc 5 1, 3) := by decide +kernel
theorem d_jdk_52_method_21_41 : decode jdk_52_method_21_code 41 = .ok (.goto (-38), 3) := by decide +kernel
theorem d_jdk_52_method_21_44 : decode jdk_52_method_21_code 44 = .ok (.iload 4, 2) := by decide +kernel
theorem d_jdk_52_method_21_46 : decode jdk_52_method_21_code 46 = .ok (.ireturn, 1) := by decide +kernel
set_option maxRecDepth 65536 in
set_option maxHeartbeats 40000000 in
theorem compLoop {lch : Launch} {Z : State} {a0 : Array Value} {cst : Int32} {dc : Addr} (hw : Hw a0 Z) (hCS : Sta Z Z.heap "java/lang/String" "COMPACT_STRINGS" "Z" (.int cst)) (hcs : ¬ cst = 0) (hD : Sta Z Z.heap "java/util/ArrayList" "DEFAULTCAPACITY_EMPTY_ELEMENTDATA" "[Ljava/lang/Object;" (.ref dc)) (hDA : ∃ c, Z.heap[dc]? = some c ∧ Ary Z (.object "java/lang/Object") [] c) {a b : Addr} {cs : List Int32} (hl : Lat cs) {p : Program} {e : Env} {R : Room} {s : State} {m : MethodId} {args : Array Value} {below : List Frame} {meth : Method} {c : Code} {h0 : Heap} {L0 : HL} {Q : Outcome → State → Prop}
    (C : Cx p s m meth c Z "java/lang/StringUTF16" jdk_52_method_21_code 7 (some .int) "compress") (fin : ∀ T o, St p lch e R s m args below meth c Z h0 L0 T [(a, Ary Z .char (chars cs)), (b, Ary Z .byte (part cs cs.length))] [] 0 0 → Go p e below Q (T.setTop (mkF m 44 #[.val (.ref a), .val (.int (Int32.ofNat cs.length)), .val (.ref b), .val (.int (Int32.ofNat cs.length)), .val (.int (Int32.ofNat cs.length)), .val (.int (Int32.ofNat cs.length)), o] []))) :
    ∀ (r k : Nat), k + r = cs.length → ∀ (T : State) (o : Slot), One o → St p lch e R s m args below meth c Z h0 L0 T [(a, Ary Z .char (chars cs)), (b, Ary Z .byte (part cs k))] [] 0 0 → Go p e below Q (T.setTop (mkF m 3 #[.val (.ref a), .val (.int (Int32.ofNat k)), .val (.ref b), .val (.int (Int32.ofNat k)), .val (.int (Int32.ofNat cs.length)), .val (.int (Int32.ofNat k)), o] [])) := by
  intro r
  induction r with
  | zero =>
    intro k hk T o ho S
    have hk' : k = cs.length := by omega
    subst hk'
    refine C.iload S d_jdk_52_method_21_3 5 rfl rfl ?_
    refine C.iload S d_jdk_52_method_21_5 7 rfl rfl ?_
    refine C.icmp_ge S d_jdk_52_method_21_7 44 10 (by decide) (by decide) rfl (fun _ => ?_) fun q => absurd q (by rw [ofn_lt hl.len hl.len]; omega)
    exact fin T o S
  | succ r ih =>
    intro k hk T o ho S
    have hlt : k < cs.length := by omega
    have hk31 : k < 2 ^ 31 := Nat.lt_trans hlt hl.len
    obtain ⟨ch, hch⟩ := nth_some hlt
    have hcv : nth (chars cs) k = some (.int ch) := by rw [chars, nth_map, hch]; rfl
    obtain ⟨hc0, hc1⟩ := hl.1 ch (nth_mem hch)
    refine C.iload S d_jdk_52_method_21_3 5 rfl rfl ?_
    refine C.iload S d_jdk_52_method_21_5 7 rfl rfl ?_
    refine C.icmp_ge S d_jdk_52_method_21_7 44 10 (by decide) (by decide) rfl (fun q => absurd ((ofn_lt hk31 hl.len).mpr hlt) q) fun _ => ?_
    refine C.aloadN S d_jdk_52_method_21_10 11 rfl rfl rfl ?_
    refine C.iloadN S d_jdk_52_method_21_11 12 rfl rfl ?_
    refine C.caload S (S.at 0 rfl) d_jdk_52_method_21_12 13 rfl (ofn_nn hk31) k (ofn_nat hk31) hcv ?_
    refine C.istore S d_jdk_52_method_21_13 15 rfl #[.val (.ref a), .val (.int (Int32.ofNat k)), .val (.ref b), .val (.int (Int32.ofNat k)), .val (.int (Int32.ofNat cs.length)), .val (.int (Int32.ofNat k)), .val (.int ch)] (store7 ho) ?_
    refine C.iload S d_jdk_52_method_21_15 17 rfl rfl ?_
    refine C.sipush S d_jdk_52_method_21_17 20 rfl (255 : Int32) rfl ?_
    refine C.icmp_le S d_jdk_52_method_21_20 26 23 (by decide) (by decide) rfl (fun _ => ?_) fun q => absurd q hc1
    refine C.aloadN S d_jdk_52_method_21_26 27 rfl rfl rfl ?_
    refine C.iloadN S d_jdk_52_method_21_27 28 rfl rfl ?_
    refine C.iload S d_jdk_52_method_21_28 30 rfl rfl ?_
    refine C.i2b S d_jdk_52_method_21_30 31 rfl _ rfl ?_
    refine C.bastore S 1 rfl d_jdk_52_method_21_31 32 rfl (ofn_nn hk31) k (ofn_nat hk31) (by rw [part_len cs (Nat.le_of_lt hlt)]; exact hlt) ch.toInt8.toInt32 (by simp [nar]) fun T2 S2 => ?_
    replace S2 := S2.as (L' := [(a, Ary Z .char (chars cs)), (b, Ary Z .byte (part cs (k + 1)))]) (M' := []) (cells' := 0) (slots' := 0) (by show [_, (b, Ary Z .byte (upd (part cs k) k _))] = _; rw [part_put hch]) rfl rfl rfl
    refine C.iinc S2 d_jdk_52_method_21_32 35 rfl rfl (Int32.ofNat (k + 1)) (1 : Int32) rfl (ofn_succ k) #[.val (.ref a), .val (.int (Int32.ofNat (k + 1))), .val (.ref b), .val (.int (Int32.ofNat k)), .val (.int (Int32.ofNat cs.length)), .val (.int (Int32.ofNat k)), .val (.int ch)] rfl ?_
    refine C.iinc S2 d_jdk_52_method_21_35 38 rfl rfl (Int32.ofNat (k + 1)) (1 : Int32) rfl (ofn_succ k) #[.val (.ref a), .val (.int (Int32.ofNat (k + 1))), .val (.ref b), .val (.int (Int32.ofNat (k + 1))), .val (.int (Int32.ofNat cs.length)), .val (.int (Int32.ofNat k)), .val (.int ch)] rfl ?_
    refine C.iinc S2 d_jdk_52_method_21_38 41 rfl rfl (Int32.ofNat (k + 1)) (1 : Int32) rfl (ofn_succ k) #[.val (.ref a), .val (.int (Int32.ofNat (k + 1))), .val (.ref b), .val (.int (Int32.ofNat (k + 1))), .val (.int (Int32.ofNat cs.length)), .val (.int (Int32.ofNat (k + 1))), .val (.int ch)] rfl ?_
    refine C.goto S2 d_jdk_52_method_21_41 3 (by decide) (by decide) ?_
    exact ih (k + 1) (by omega) T2 _ (One.val rfl) S2
set_option maxRecDepth 65536 in
set_option maxHeartbeats 40000000 in
theorem comp5 {lch : Launch} {Z : State} {a0 : Array Value} {cst : Int32} {dc : Addr} (hw : Hw a0 Z) (hCS : Sta Z Z.heap "java/lang/String" "COMPACT_STRINGS" "Z" (.int cst)) (hcs : ¬ cst = 0) (hD : Sta Z Z.heap "java/util/ArrayList" "DEFAULTCAPACITY_EMPTY_ELEMENTDATA" "[Ljava/lang/Object;" (.ref dc)) (hDA : ∃ c, Z.heap[dc]? = some c ∧ Ary Z (.object "java/lang/Object") [] c) (a b : Addr) (cs : List Int32) (hl : Lat cs) :
    Con lch Z (⟨"java/lang/StringUTF16", "compress", "([CI[BII)I"⟩ : MethodName) jdk_52_method_21_code 7 (some .int) ({ frames := 0, cells := 0, slots := 0, locals := 0 } : Room) #[.ref a, .int (0 : Int32), .ref b, .int (0 : Int32), .int (Int32.ofNat cs.length)] [(a, Ary Z .char (chars cs)), (b, Ary Z .byte (List.replicate cs.length (.int 0)))] []
      (fun v L1 M1 => v = some (.int (Int32.ofNat cs.length)) ∧ L1 = [(a, Ary Z .char (chars cs)), (b, Ary Z .byte (encB cs))] ∧ M1 = []) := by
  refine Con.of_body (Ls := #[.val (.ref a), .val (.int (0 : Int32)), .val (.ref b), .val (.int (0 : Int32)), .val (.int (Int32.ofNat cs.length)), .unset, .unset]) (plainFor_of_name pn0) (fun m => by simp [entryFrame, mkF, argsToLocals, Value.category]) ?_
  intro p e s m below meth c T0 h0 C S0
  refine C.iconst S0 d_jdk_52_method_21_0 1 rfl (0 : Int32) rfl ?_
  refine C.istore S0 d_jdk_52_method_21_1 3 rfl #[.val (.ref a), .val (.int (0 : Int32)), .val (.ref b), .val (.int (0 : Int32)), .val (.int (Int32.ofNat cs.length)), .val (.int (0 : Int32)), .unset] rfl ?_
  have q := fun Q fin => compLoop (Q := Q) hw hCS hcs hD hDA hl C fin cs.length 0 (Nat.zero_add _) T0 .unset One.u (S0.as (by rw [part_zero]) rfl rfl rfl)
  rw [show Int32.ofNat 0 = (0 : Int32) from rfl] at q
  refine q _ (fun T o S => ?_)
  refine C.iload S d_jdk_52_method_21_44 46 rfl rfl ?_
  exact C.retI S d_jdk_52_method_21_46 [0, 1] rfl (by decide) [] rfl fa0 ⟨rfl, by rw [part_all]; rfl, rfl⟩ rfl (leD rfl) (leD rfl)
theorem d_jdk_52_method_16_0 : decode jdk_52_method_16_code 0 = .ok (.iload_n 2, 1) := by decide +kernel
theorem d_jdk_52_method_16_1 : decode jdk_52_method_16_code 1 = .ok (.newarray .byte, 2) := by decide +kernel
theorem d_jdk_52_method_16_3 : decode jdk_52_method_16_code 3 = .ok (.astore_n 3, 1) := by decide +kernel
theorem d_jdk_52_method_16_4 : decode jdk_52_method_16_code 4 = .ok (.aload_n 0, 1) := by decide +kernel
theorem d_jdk_52_method_16_5 : decode jdk_52_method_16_code 5 = .ok (.iload_n 1, 1) := by decide +kernel
theorem d_jdk_52_method_16_6 : decode jdk_52_method_16_code 6 = .ok (.aload_n 3, 1) := by decide +kernel
theorem d_jdk_52_method_16_7 : decode jdk_52_method_16_code 7 = .ok (.iconst 0, 1) := by decide +kernel
theorem d_jdk_52_method_16_8 : decode jdk_52_method_16_code 8 = .ok (.iload_n 2, 1) := by decide +kernel
theorem d_jdk_52_method_16_9 : decode jdk_52_method_16_code 9 = .ok (.invokestatic 115, 3) := by decide +kernel
theorem pd0 : parseMethodDescriptor "([CI[BII)I" = some ⟨[(.array .char), .int, (.array .byte), .int, .int], some .int⟩ := by decide +kernel
theorem d_jdk_52_method_16_12 : decode jdk_52_method_16_code 12 = .ok (.istore 4, 2) := by decide +kernel
theorem d_jdk_52_method_16_14 : decode jdk_52_method_16_code 14 = .ok (.iload 4, 2) := by decide +kernel
theorem d_jdk_52_method_16_16 : decode jdk_52_method_16_code 16 = .ok (.iload_n 2, 1) := by decide +kernel
theorem d_jdk_52_method_16_17 : decode jdk_52_method_16_code 17 = .ok (.if_icmp .eq 40, 3) := by decide +kernel
theorem d_jdk_52_method_16_57 : decode jdk_52_method_16_code 57 = .ok (.aload_n 3, 1) := by decide +kernel
theorem d_jdk_52_method_16_58 : decode jdk_52_method_16_code 58 = .ok (.areturn, 1) := by decide +kernel
theorem ef_comp3 {a : Addr} {cs : List Int32} (m : MethodId) : entryFrame m #[(.ref a), (.int (0 : Int32)), (.int (Int32.ofNat cs.length))] 6 = mkF m 0 #[.val (.ref a), .val (.int (0 : Int32)), .val (.int (Int32.ofNat cs.length)), .unset, .unset, .unset] [] := by first | (simp [entryFrame, mkF, argsToLocals, Value.category]; done) | rfl
set_option maxRecDepth 65536 in
set_option maxHeartbeats 40000000 in
theorem comp3 {lch : Launch} {Z : State} {a0 : Array Value} {cst : Int32} {dc : Addr} (hw : Hw a0 Z) (hCS : Sta Z Z.heap "java/lang/String" "COMPACT_STRINGS" "Z" (.int cst)) (hcs : ¬ cst = 0) (hD : Sta Z Z.heap "java/util/ArrayList" "DEFAULTCAPACITY_EMPTY_ELEMENTDATA" "[Ljava/lang/Object;" (.ref dc)) (hDA : ∃ c, Z.heap[dc]? = some c ∧ Ary Z (.object "java/lang/Object") [] c) (a : Addr) (cs : List Int32) (hl : Lat cs) (hcap : cs.length ≤ 4) :
    Con lch Z (⟨"java/lang/StringUTF16", "compress", "([CII)[B"⟩ : MethodName) jdk_52_method_16_code 6 (Option.some (Jvm.ClassFile.FieldType.array Jvm.ClassFile.FieldType.byte)) ({ frames := 1, cells := 1, slots := 4, locals := 18 } : Room) #[(.ref a), (.int (0 : Int32)), (.int (Int32.ofNat cs.length))] [(a, Ary Z .char (chars cs))] []
      (fun rv L1 M1 => ∃ (b : Addr), rv = some (.ref b) ∧ L1 = [(a, Ary Z .char (chars cs)), (b, Ary Z .byte (encB cs))] ∧ M1 = []) := by
  refine Con.of_body (plainFor_of_name pn0) (fun m => ef_comp3 m) ?_
  intro p e s m below meth c T0 h0 C S0
  refine C.iloadN S0 d_jdk_52_method_16_0 1 rfl rfl ?_
  refine C.newarray (aty := .byte) S0 (w20 hw) d_jdk_52_method_16_1 3 rfl (ofn_nn hl.len) cs.length (ofn_nat hl.len) 4 hcap (by decide) (leD rfl) (leD rfl) fun T1 b1 S1 => ?_
  replace S1 := S1.as (L' := [(a, Ary Z .char (chars cs)), (b1, Ary Z .byte (List.replicate cs.length (.int 0)))]) (M' := []) (cells' := 1) (slots' := 4) rfl rfl rfl rfl
  refine C.astoreN S1 d_jdk_52_method_16_3 4 rfl rfl #[.val (.ref a), .val (.int (0 : Int32)), .val (.int (Int32.ofNat cs.length)), .val (.ref b1), .unset, .unset] rfl ?_
  refine C.aloadN S1 d_jdk_52_method_16_4 5 rfl rfl rfl ?_
  refine C.iloadN S1 d_jdk_52_method_16_5 6 rfl rfl ?_
  refine C.aloadN S1 d_jdk_52_method_16_6 7 rfl rfl rfl ?_
  refine C.iconst S1 d_jdk_52_method_16_7 8 rfl (0 : Int32) rfl ?_
  refine C.iloadN S1 d_jdk_52_method_16_8 9 rfl rfl ?_
  refine C.callStatic S1 (w21 hw) (w22 hw) (w18 hw) (w23 hw) (by decide) (comp5 hw hCS hcs hD hDA a b1 cs hl) d_jdk_52_method_16_9 12 rfl rfl pd0 [(.ref a), (.int (0 : Int32)), (.ref b1), (.int (0 : Int32)), (.int (Int32.ofNat cs.length))] [] rfl rfl rfl [0, 1] rfl (by decide) rfl [] rfl (leD rfl) (leD rfl) (leD rfl) (leD rfl) ?_
  rintro T2 _ _ _ ⟨rfl, rfl, rfl⟩ hro2 S2
  replace S2 := S2.as (L' := [(a, Ary Z .char (chars cs)), (b1, Ary Z .byte (encB cs))]) (M' := []) (cells' := 1) (slots' := 4) rfl rfl rfl rfl
  show Go p e below _ (T2.setTop (mkF m 12 #[.val (.ref a), .val (.int (0 : Int32)), .val (.int (Int32.ofNat cs.length)), .val (.ref b1), .unset, .unset] [(.int (Int32.ofNat cs.length))]))
  refine C.istore S2 d_jdk_52_method_16_12 14 rfl #[.val (.ref a), .val (.int (0 : Int32)), .val (.int (Int32.ofNat cs.length)), .val (.ref b1), .val (.int (Int32.ofNat cs.length)), .unset] rfl ?_
  refine C.iload S2 d_jdk_52_method_16_14 16 rfl rfl ?_
  refine C.iloadN S2 d_jdk_52_method_16_16 17 rfl rfl ?_
  refine C.icmp_eq S2 d_jdk_52_method_16_17 57 20 (by decide) (by decide) rfl (fun hc3 => ?_) fun hc3 => absurd rfl hc3
  refine C.aloadN S2 d_jdk_52_method_16_57 58 rfl rfl rfl ?_
  exact C.retA S2 rfl rfl d_jdk_52_method_16_58 [0, 1] rfl (by decide) [] rfl fa0 ⟨b1, rfl, rfl, rfl⟩ rfl (leD rfl) (leD rfl)
abbrev O_String (Z : State) (v0 : Value) (v1 : Value) : Cell → Prop := Obj Z "java/lang/String" [("java/lang/String", "coder", "B", v0), ("java/lang/String", "value", "[B", v1)]
theorem d_jdk_42_method_149_0 : decode jdk_42_method_149_code 0 = .ok (.aload_n 0, 1) := by decide +kernel
theorem d_jdk_42_method_149_1 : decode jdk_42_method_149_code 1 = .ok (.invokespecial 1, 3) := by decide +kernel
theorem d_jdk_42_method_149_4 : decode jdk_42_method_149_code 4 = .ok (.iload_n 3, 1) := by decide +kernel
theorem d_jdk_42_method_149_5 : decode jdk_42_method_149_code 5 = .ok (.ifCond .ne 22, 3) := by decide +kernel
theorem d_jdk_42_method_149_27 : decode jdk_42_method_149_code 27 = .ok (.getstatic 38, 3) := by decide +kernel
theorem d_jdk_42_method_149_30 : decode jdk_42_method_149_code 30 = .ok (.ifCond .eq 28, 3) := by decide +kernel
theorem d_jdk_42_method_149_33 : decode jdk_42_method_149_code 33 = .ok (.aload_n 1, 1) := by decide +kernel
theorem d_jdk_42_method_149_34 : decode jdk_42_method_149_code 34 = .ok (.iload_n 2, 1) := by decide +kernel
theorem d_jdk_42_method_149_35 : decode jdk_42_method_149_code 35 = .ok (.iload_n 3, 1) := by decide +kernel
theorem d_jdk_42_method_149_36 : decode jdk_42_method_149_code 36 = .ok (.invokestatic 177, 3) := by decide +kernel
theorem pd1 : parseMethodDescriptor "([CII)[B" = some ⟨[(.array .char), .int, .int], some (.array .byte)⟩ := by decide +kernel
theorem d_jdk_42_method_149_39 : decode jdk_42_method_149_code 39 = .ok (.astore 5, 2) := by decide +kernel
theorem d_jdk_42_method_149_41 : decode jdk_42_method_149_code 41 = .ok (.aload_n 0, 1) := by decide +kernel
theorem d_jdk_42_method_149_42 : decode jdk_42_method_149_code 42 = .ok (.aload 5, 2) := by decide +kernel
theorem d_jdk_42_method_149_44 : decode jdk_42_method_149_code 44 = .ok (.iload_n 3, 1) := by decide +kernel
theorem d_jdk_42_method_149_45 : decode jdk_42_method_149_code 45 = .ok (.invokestatic 47, 3) := by decide +kernel
theorem pd2 : parseMethodDescriptor "([BI)B" = some ⟨[(.array .byte), .int], some .byte⟩ := by decide +kernel
theorem d_jdk_42_method_149_48 : decode jdk_42_method_149_code 48 = .ok (.putfield 15, 3) := by decide +kernel
theorem d_jdk_42_method_149_51 : decode jdk_42_method_149_code 51 = .ok (.aload_n 0, 1) := by decide +kernel
theorem d_jdk_42_method_149_52 : decode jdk_42_method_149_code 52 = .ok (.aload 5, 2) := by decide +kernel
theorem d_jdk_42_method_149_54 : decode jdk_42_method_149_code 54 = .ok (.putfield 9, 3) := by decide +kernel
theorem d_jdk_42_method_149_57 : decode jdk_42_method_149_code 57 = .ok (.return_, 1) := by decide +kernel
theorem pn1 : plainName "java/lang/String" = true := by first | (simp [plainName, overriddenIn]; done) | decide +kernel
theorem ef_strInit5 {t : Addr} {a : Addr} {cs : List Int32} (m : MethodId) : entryFrame m #[(.ref t), (.ref a), (.int (0 : Int32)), (.int (Int32.ofNat cs.length)), .null] 6 = mkF m 0 #[.val (.ref t), .val (.ref a), .val (.int (0 : Int32)), .val (.int (Int32.ofNat cs.length)), .val .null, .unset] [] := by first | (simp [entryFrame, mkF, argsToLocals, Value.category]; done) | rfl
set_option maxRecDepth 65536 in
set_option maxHeartbeats 40000000 in
theorem strInit5 {lch : Launch} {Z : State} {a0 : Array Value} {cst : Int32} {dc : Addr} (hw : Hw a0 Z) (hCS : Sta Z Z.heap "java/lang/String" "COMPACT_STRINGS" "Z" (.int cst)) (hcs : ¬ cst = 0) (hD : Sta Z Z.heap "java/util/ArrayList" "DEFAULTCAPACITY_EMPTY_ELEMENTDATA" "[Ljava/lang/Object;" (.ref dc)) (hDA : ∃ c, Z.heap[dc]? = some c ∧ Ary Z (.object "java/lang/Object") [] c) (t : Addr) (a : Addr) (cs : List Int32) (hl : Lat cs) (hcap : cs.length ≤ 4) (hpos : 0 < cs.length) :
    Con lch Z (⟨"java/lang/String", "<init>", "([CIILjava/lang/Void;)V"⟩ : MethodName) jdk_42_method_149_code 6 (Option.none : Option Jvm.ClassFile.FieldType) ({ frames := 2, cells := 1, slots := 4, locals := 35 } : Room) #[(.ref t), (.ref a), (.int (0 : Int32)), (.int (Int32.ofNat cs.length)), .null] [(t, O_String Z (.int (0 : Int32)) .null), (a, Ary Z .char (chars cs))] []
      (fun rv L1 M1 => ∃ (b : Addr), rv = none ∧ L1 = [(t, O_String Z (.int (0 : Int32)) (.ref b)), (a, Ary Z .char (chars cs)), (b, Ary Z .byte (encB cs))] ∧ M1 = []) := by
  refine Con.of_body (plainFor_of_name pn1) (fun m => ef_strInit5 m) ?_
  intro p e s m below meth c T0 h0 C S0
  refine C.aloadN S0 d_jdk_42_method_149_0 1 rfl rfl rfl ?_
  refine C.objInit S0 (w12 hw) (w13 hw) (w14 hw) d_jdk_42_method_149_1 4 rfl rfl (leD rfl) (leD rfl) fun T1 S1 => ?_
  refine C.iloadN S1 d_jdk_42_method_149_4 5 rfl rfl ?_
  refine C.if_ne S1 d_jdk_42_method_149_5 27 8 (by decide) (by decide) rfl (fun hc2 => ?_) fun hc2 => absurd hc2 (fun q => absurd ((ofn_inj (n := 0) hl.len (by decide)).mp q) (by omega))
  refine C.getstatic S1 (host := "") (Or.inl (w15 hw)) Via.refl d_jdk_42_method_149_27 hCS 30 rfl fun T3 S3 => ?_
  refine C.if_eq S3 d_jdk_42_method_149_30 58 33 (by decide) (by decide) rfl (fun hc4 => absurd hc4 hcs) fun hc4 => ?_
  refine C.aloadN S3 d_jdk_42_method_149_33 34 rfl rfl rfl ?_
  refine C.iloadN S3 d_jdk_42_method_149_34 35 rfl rfl ?_
  refine C.iloadN S3 d_jdk_42_method_149_35 36 rfl rfl ?_
  refine C.callStatic S3 (w16 hw) (w17 hw) (w18 hw) (w19 hw) (by decide) (comp3 hw hCS hcs hD hDA a cs hl hcap) d_jdk_42_method_149_36 39 rfl rfl pd1 [(.ref a), (.int (0 : Int32)), (.int (Int32.ofNat cs.length))] [] rfl rfl rfl [1] rfl (by decide) rfl [] rfl (leD rfl) (leD rfl) (leD rfl) (leD rfl) ?_
  rintro T5 _ _ _ ⟨b6, rfl, rfl, rfl⟩ hro5 S5
  replace S5 := S5.as (L' := [(t, O_String Z (.int (0 : Int32)) .null), (a, Ary Z .char (chars cs)), (b6, Ary Z .byte (encB cs))]) (M' := []) (cells' := 1) (slots' := 4) rfl rfl rfl rfl
  show Go p e below _ (T5.setTop (mkF m 39 #[.val (.ref t), .val (.ref a), .val (.int (0 : Int32)), .val (.int (Int32.ofNat cs.length)), .val .null, .unset] [(.ref b6)]))
  refine C.astore S5 d_jdk_42_method_149_39 41 rfl rfl #[.val (.ref t), .val (.ref a), .val (.int (0 : Int32)), .val (.int (Int32.ofNat cs.length)), .val .null, .val (.ref b6)] rfl ?_
  refine C.aloadN S5 d_jdk_42_method_149_41 42 rfl rfl rfl ?_
  refine C.aload S5 d_jdk_42_method_149_42 44 rfl rfl rfl ?_
  refine C.iloadN S5 d_jdk_42_method_149_44 45 rfl rfl ?_
  refine C.callStatic S5 (w24 hw) (w25 hw) (w18 hw) (w26 hw) (by decide) (coderOf hw hCS hcs hD hDA b6 (encB cs) (Int32.ofNat cs.length) (by rw [encB, List.length_map])) d_jdk_42_method_149_45 48 rfl rfl pd2 [(.ref b6), (.int (Int32.ofNat cs.length))] [(.ref t)] rfl rfl rfl [2] rfl (by decide) rfl [] rfl (leD rfl) (leD rfl) (leD rfl) (leD rfl) ?_
  rintro T7 _ _ _ ⟨rfl, rfl, rfl⟩ hro7 S7
  replace S7 := S7.as (L' := [(t, O_String Z (.int (0 : Int32)) .null), (a, Ary Z .char (chars cs)), (b6, Ary Z .byte ((encB cs)))]) (M' := []) (cells' := 1) (slots' := 4) rfl rfl rfl rfl
  show Go p e below _ (T7.setTop (mkF m 48 #[.val (.ref t), .val (.ref a), .val (.int (0 : Int32)), .val (.int (Int32.ofNat cs.length)), .val .null, .val (.ref b6)] [(.int (0 : Int32)), (.ref t)]))
  refine C.putfieldN S7 (w27 hw) Via.refl d_jdk_42_method_149_48 0 rfl 0 rfl (Or.inr ⟨(w28 hw), rfl, rfl⟩) (w3 hw) (ty := .byte) (by decide) rfl rfl 51 rfl fun T8 S8 => ?_
  replace S8 := S8.as (L' := [(t, O_String Z (.int (0 : Int32)) .null), (a, Ary Z .char (chars cs)), (b6, Ary Z .byte ((encB cs)))]) (M' := []) (cells' := 1) (slots' := 4) rfl rfl rfl rfl
  refine C.aloadN S8 d_jdk_42_method_149_51 52 rfl rfl rfl ?_
  refine C.aload S8 d_jdk_42_method_149_52 54 rfl rfl rfl ?_
  refine C.putfield S8 (host := "") (Or.inl (w29 hw)) Via.refl d_jdk_42_method_149_54 0 rfl 1 rfl (Or.inr ⟨(w30 hw), rfl, rfl⟩) (w3 hw) (ty := (.array .byte)) (by decide) rfl rfl 57 rfl fun T9 S9 => ?_
  replace S9 := S9.as (L' := [(t, O_String Z (.int (0 : Int32)) (.ref b6)), (a, Ary Z .char (chars cs)), (b6, Ary Z .byte ((encB cs)))]) (M' := []) (cells' := 1) (slots' := 4) rfl rfl rfl rfl
  exact C.retV S9 d_jdk_42_method_149_57 [0, 1, 2] rfl (by decide) [] rfl fa0 ⟨b6, rfl, rfl, rfl⟩ rfl (leD rfl) (leD rfl)
theorem d_jdk_42_method_3_0 : decode jdk_42_method_3_code 0 = .ok (.aload_n 0, 1) := by decide +kernel
theorem d_jdk_42_method_3_1 : decode jdk_42_method_3_code 1 = .ok (.aload_n 1, 1) := by decide +kernel
theorem d_jdk_42_method_3_2 : decode jdk_42_method_3_code 2 = .ok (.iconst 0, 1) := by decide +kernel
theorem d_jdk_42_method_3_3 : decode jdk_42_method_3_code 3 = .ok (.aload_n 1, 1) := by decide +kernel
theorem d_jdk_42_method_3_4 : decode jdk_42_method_3_code 4 = .ok (.arraylength, 1) := by decide +kernel
theorem d_jdk_42_method_3_5 : decode jdk_42_method_3_code 5 = .ok (.aconst_null, 1) := by decide +kernel
theorem d_jdk_42_method_3_6 : decode jdk_42_method_3_code 6 = .ok (.invokespecial 27, 3) := by decide +kernel
theorem pd3 : parseMethodDescriptor "([CIILjava/lang/Void;)V" = some ⟨[(.array .char), .int, .int, (.object "java/lang/Void")], none⟩ := by decide +kernel
theorem d_jdk_42_method_3_9 : decode jdk_42_method_3_code 9 = .ok (.return_, 1) := by decide +kernel
theorem ef_strInit {t : Addr} {a : Addr} (m : MethodId) : entryFrame m #[(.ref t), (.ref a)] 2 = mkF m 0 #[.val (.ref t), .val (.ref a)] [] := by first | (simp [entryFrame, mkF, argsToLocals, Value.category]; done) | rfl
set_option maxRecDepth 65536 in
set_option maxHeartbeats 40000000 in
theorem strInit {lch : Launch} {Z : State} {a0 : Array Value} {cst : Int32} {dc : Addr} (hw : Hw a0 Z) (hCS : Sta Z Z.heap "java/lang/String" "COMPACT_STRINGS" "Z" (.int cst)) (hcs : ¬ cst = 0) (hD : Sta Z Z.heap "java/util/ArrayList" "DEFAULTCAPACITY_EMPTY_ELEMENTDATA" "[Ljava/lang/Object;" (.ref dc)) (hDA : ∃ c, Z.heap[dc]? = some c ∧ Ary Z (.object "java/lang/Object") [] c) (t : Addr) (a : Addr) (cs : List Int32) (hl : Lat cs) (hcap : cs.length ≤ 4) (hpos : 0 < cs.length) :
    Con lch Z (⟨"java/lang/String", "<init>", "([C)V"⟩ : MethodName) jdk_42_method_3_code 2 (Option.none : Option Jvm.ClassFile.FieldType) ({ frames := 3, cells := 1, slots := 4, locals := 52 } : Room) #[(.ref t), (.ref a)] [(t, O_String Z (.int (0 : Int32)) .null), (a, Ary Z .char (chars cs))] []
      (fun rv L1 M1 => ∃ (b : Addr), rv = none ∧ L1 = [(t, O_String Z (.int (0 : Int32)) (.ref b)), (a, Ary Z .char (chars cs)), (b, Ary Z .byte (encB cs))] ∧ M1 = []) := by
  refine Con.of_body (plainFor_of_name pn1) (fun m => ef_strInit m) ?_
  intro p e s m below meth c T0 h0 C S0
  refine C.aloadN S0 d_jdk_42_method_3_0 1 rfl rfl rfl ?_
  refine C.aloadN S0 d_jdk_42_method_3_1 2 rfl rfl rfl ?_
  refine C.iconst S0 d_jdk_42_method_3_2 3 rfl (0 : Int32) rfl ?_
  refine C.aloadN S0 d_jdk_42_method_3_3 4 rfl rfl rfl ?_
  refine C.arraylength S0 (S0.at 1 rfl) d_jdk_42_method_3_4 5 rfl (Int32.ofNat cs.length) (by rw [chars, List.length_map]) ?_
  refine C.aconstNull S0 d_jdk_42_method_3_5 6 rfl ?_
  refine C.callSpecial (a := t) S0 rfl (w8 hw) (w9 hw) (w4 hw) (w11 hw) (by decide) (strInit5 hw hCS hcs hD hDA t a cs hl hcap hpos) d_jdk_42_method_3_6 9 rfl rfl pd3 [(.ref a), (.int (0 : Int32)), (.int (Int32.ofNat cs.length)), .null] [] rfl rfl rfl [0, 1] rfl (by decide) rfl [] rfl (leD rfl) (leD rfl) (leD rfl) (leD rfl) ?_
  rintro T1 _ _ _ ⟨b2, rfl, rfl, rfl⟩ hro1 S1
  replace S1 := S1.as (L' := [(t, O_String Z (.int (0 : Int32)) (.ref b2)), (a, Ary Z .char (chars cs)), (b2, Ary Z .byte (encB cs))]) (M' := []) (cells' := 1) (slots' := 4) rfl rfl rfl rfl
  show Go p e below _ (T1.setTop (mkF m 9 #[.val (.ref t), .val (.ref a)] []))
  exact C.retV S1 d_jdk_42_method_3_9 [0, 1, 2] rfl (by decide) [] rfl fa0 ⟨b2, rfl, rfl, rfl⟩ rfl (leD rfl) (leD rfl)
theorem d_jdk_22_method_1_0 : decode jdk_22_method_1_code 0 = .ok (.aload_n 0, 1) := by decide +kernel
theorem d_jdk_22_method_1_1 : decode jdk_22_method_1_code 1 = .ok (.invokespecial 1, 3) := by decide +kernel
theorem d_jdk_22_method_1_4 : decode jdk_22_method_1_code 4 = .ok (.return_, 1) := by decide +kernel
theorem pn2 : plainName "java/util/AbstractCollection" = true := by first | (simp [plainName, overriddenIn]; done) | decide +kernel
theorem ef_acInit {t : Addr} (m : MethodId) : entryFrame m #[(.ref t)] 1 = mkF m 0 #[.val (.ref t)] [] := by first | (simp [entryFrame, mkF, argsToLocals, Value.category]; done) | rfl
set_option maxRecDepth 65536 in
set_option maxHeartbeats 40000000 in
theorem acInit {lch : Launch} {Z : State} {a0 : Array Value} {cst : Int32} {dc : Addr} (hw : Hw a0 Z) (hCS : Sta Z Z.heap "java/lang/String" "COMPACT_STRINGS" "Z" (.int cst)) (hcs : ¬ cst = 0) (hD : Sta Z Z.heap "java/util/ArrayList" "DEFAULTCAPACITY_EMPTY_ELEMENTDATA" "[Ljava/lang/Object;" (.ref dc)) (hDA : ∃ c, Z.heap[dc]? = some c ∧ Ary Z (.object "java/lang/Object") [] c) (t : Addr) :
    Con lch Z (⟨"java/util/AbstractCollection", "<init>", "()V"⟩ : MethodName) jdk_22_method_1_code 1 (Option.none : Option Jvm.ClassFile.FieldType) ({ frames := 1, cells := 0, slots := 0, locals := 12 } : Room) #[(.ref t)] [] []
      (fun rv L1 M1 => rv = none ∧ L1 = [] ∧ M1 = []) := by
  refine Con.of_body (plainFor_of_name pn2) (fun m => ef_acInit m) ?_
  intro p e s m below meth c T0 h0 C S0
  refine C.aloadN S0 d_jdk_22_method_1_0 1 rfl rfl rfl ?_
  refine C.objInit S0 (w56 hw) (w13 hw) (w14 hw) d_jdk_22_method_1_1 4 rfl rfl (leD rfl) (leD rfl) fun T1 S1 => ?_
  exact C.retV S1 d_jdk_22_method_1_4 [] rfl (by decide) [] rfl fa0 ⟨rfl, rfl, rfl⟩ rfl (leD rfl) (leD rfl)
abbrev O_ArrayList (Z : State) (v0 : Value) (v1 : Value) (v2 : Value) : Cell → Prop := Obj Z "java/util/ArrayList" [("java/util/AbstractList", "modCount", "I", v0), ("java/util/ArrayList", "elementData", "[Ljava/lang/Object;", v1), ("java/util/ArrayList", "size", "I", v2)]
theorem d_jdk_39_method_1_0 : decode jdk_39_method_1_code 0 = .ok (.aload_n 0, 1) := by decide +kernel
theorem d_jdk_39_method_1_1 : decode jdk_39_method_1_code 1 = .ok (.invokespecial 1, 3) := by decide +kernel
theorem pd4 : parseMethodDescriptor "()V" = some ⟨[], none⟩ := by decide +kernel
theorem d_jdk_39_method_1_4 : decode jdk_39_method_1_code 4 = .ok (.aload_n 0, 1) := by decide +kernel
theorem d_jdk_39_method_1_5 : decode jdk_39_method_1_code 5 = .ok (.iconst 0, 1) := by decide +kernel
theorem d_jdk_39_method_1_6 : decode jdk_39_method_1_code 6 = .ok (.putfield 7, 3) := by decide +kernel
theorem d_jdk_39_method_1_9 : decode jdk_39_method_1_code 9 = .ok (.return_, 1) := by decide +kernel
theorem pn3 : plainName "java/util/AbstractList" = true := by first | (simp [plainName, overriddenIn]; done) | decide +kernel
theorem ef_abInit {t : Addr} (m : MethodId) : entryFrame m #[(.ref t)] 1 = mkF m 0 #[.val (.ref t)] [] := by first | (simp [entryFrame, mkF, argsToLocals, Value.category]; done) | rfl
set_option maxRecDepth 65536 in
set_option maxHeartbeats 40000000 in
theorem abInit {lch : Launch} {Z : State} {a0 : Array Value} {cst : Int32} {dc : Addr} (hw : Hw a0 Z) (hCS : Sta Z Z.heap "java/lang/String" "COMPACT_STRINGS" "Z" (.int cst)) (hcs : ¬ cst = 0) (hD : Sta Z Z.heap "java/util/ArrayList" "DEFAULTCAPACITY_EMPTY_ELEMENTDATA" "[Ljava/lang/Object;" (.ref dc)) (hDA : ∃ c, Z.heap[dc]? = some c ∧ Ary Z (.object "java/lang/Object") [] c) (t : Addr) (mc : Int32) :
    Con lch Z (⟨"java/util/AbstractList", "<init>", "()V"⟩ : MethodName) jdk_39_method_1_code 1 (Option.none : Option Jvm.ClassFile.FieldType) ({ frames := 2, cells := 0, slots := 0, locals := 24 } : Room) #[(.ref t)] [(t, O_ArrayList Z (.int mc) .null (.int (0 : Int32)))] []
      (fun rv L1 M1 => rv = none ∧ L1 = [(t, O_ArrayList Z (.int (0 : Int32)) .null (.int (0 : Int32)))] ∧ M1 = []) := by
  refine Con.of_body (plainFor_of_name pn3) (fun m => ef_abInit m) ?_
  intro p e s m below meth c T0 h0 C S0
  refine C.aloadN S0 d_jdk_39_method_1_0 1 rfl rfl rfl ?_
  refine C.callSpecial (a := t) S0 rfl (w50 hw) (w51 hw) (w54 hw) (w55 hw) (by decide) (acInit hw hCS hcs hD hDA t) d_jdk_39_method_1_1 4 rfl rfl pd4 [] [] rfl rfl rfl [] rfl (by decide) rfl [] rfl (leD rfl) (leD rfl) (leD rfl) (leD rfl) ?_
  rintro T1 _ _ _ ⟨rfl, rfl, rfl⟩ hro1 S1
  replace S1 := S1.as (L' := [(t, O_ArrayList Z (.int mc) .null (.int (0 : Int32)))]) (M' := []) (cells' := 0) (slots' := 0) rfl rfl rfl rfl
  show Go p e below _ (T1.setTop (mkF m 4 #[.val (.ref t)] []))
  refine C.aloadN S1 d_jdk_39_method_1_4 5 rfl rfl rfl ?_
  refine C.iconst S1 d_jdk_39_method_1_5 6 rfl (0 : Int32) rfl ?_
  refine C.putfield S1 (host := "") (Or.inl (w57 hw)) Via.refl d_jdk_39_method_1_6 0 rfl 0 rfl (Or.inl (w58 hw)) (w39 hw) (ty := .int) (by decide) rfl rfl 9 rfl fun T2 S2 => ?_
  replace S2 := S2.as (L' := [(t, O_ArrayList Z (.int (0 : Int32)) .null (.int (0 : Int32)))]) (M' := []) (cells' := 0) (slots' := 0) rfl rfl rfl rfl
  exact C.retV S2 d_jdk_39_method_1_9 [0] rfl (by decide) [] rfl fa0 ⟨rfl, rfl, rfl⟩ rfl (leD rfl) (leD rfl)
theorem d_jdk_38_method_2_0 : decode jdk_38_method_2_code 0 = .ok (.aload_n 0, 1) := by decide +kernel
theorem d_jdk_38_method_2_1 : decode jdk_38_method_2_code 1 = .ok (.invokespecial 1, 3) := by decide +kernel
theorem d_jdk_38_method_2_4 : decode jdk_38_method_2_code 4 = .ok (.aload_n 0, 1) := by decide +kernel
theorem d_jdk_38_method_2_5 : decode jdk_38_method_2_code 5 = .ok (.getstatic 39, 3) := by decide +kernel
theorem d_jdk_38_method_2_8 : decode jdk_38_method_2_code 8 = .ok (.putfield 9, 3) := by decide +kernel
theorem d_jdk_38_method_2_11 : decode jdk_38_method_2_code 11 = .ok (.return_, 1) := by decide +kernel
theorem pn4 : plainName "java/util/ArrayList" = true := by first | (simp [plainName, overriddenIn]; done) | decide +kernel
theorem ef_alInit {t : Addr} (m : MethodId) : entryFrame m #[(.ref t)] 1 = mkF m 0 #[.val (.ref t)] [] := by first | (simp [entryFrame, mkF, argsToLocals, Value.category]; done) | rfl
set_option maxRecDepth 65536 in
set_option maxHeartbeats 40000000 in
theorem alInit {lch : Launch} {Z : State} {a0 : Array Value} {cst : Int32} {dc : Addr} (hw : Hw a0 Z) (hCS : Sta Z Z.heap "java/lang/String" "COMPACT_STRINGS" "Z" (.int cst)) (hcs : ¬ cst = 0) (hD : Sta Z Z.heap "java/util/ArrayList" "DEFAULTCAPACITY_EMPTY_ELEMENTDATA" "[Ljava/lang/Object;" (.ref dc)) (hDA : ∃ c, Z.heap[dc]? = some c ∧ Ary Z (.object "java/lang/Object") [] c) (t : Addr) :
    Con lch Z (⟨"java/util/ArrayList", "<init>", "()V"⟩ : MethodName) jdk_38_method_2_code 1 (Option.none : Option Jvm.ClassFile.FieldType) ({ frames := 3, cells := 0, slots := 0, locals := 36 } : Room) #[(.ref t)] [(t, O_ArrayList Z (.int (0 : Int32)) .null (.int (0 : Int32)))] []
      (fun rv L1 M1 => rv = none ∧ L1 = [(t, O_ArrayList Z (.int (0 : Int32)) (.ref dc) (.int (0 : Int32)))] ∧ M1 = []) := by
  refine Con.of_body (plainFor_of_name pn4) (fun m => ef_alInit m) ?_
  intro p e s m below meth c T0 h0 C S0
  refine C.aloadN S0 d_jdk_38_method_2_0 1 rfl rfl rfl ?_
  refine C.callSpecial (a := t) S0 rfl (w44 hw) (w45 hw) (w48 hw) (w49 hw) (by decide) (abInit hw hCS hcs hD hDA t (0 : Int32)) d_jdk_38_method_2_1 4 rfl rfl pd4 [] [] rfl rfl rfl [0] rfl (by decide) rfl [] rfl (leD rfl) (leD rfl) (leD rfl) (leD rfl) ?_
  rintro T1 _ _ _ ⟨rfl, rfl, rfl⟩ hro1 S1
  replace S1 := S1.as (L' := [(t, O_ArrayList Z (.int (0 : Int32)) .null (.int (0 : Int32)))]) (M' := []) (cells' := 0) (slots' := 0) rfl rfl rfl rfl
  show Go p e below _ (T1.setTop (mkF m 4 #[.val (.ref t)] []))
  refine C.aloadN S1 d_jdk_38_method_2_4 5 rfl rfl rfl ?_
  refine C.getstatic S1 (host := "") (Or.inl (w59 hw)) Via.refl d_jdk_38_method_2_5 hD 8 rfl fun T2 S2 => ?_
  refine C.putfield S2 (host := "") (Or.inl (w60 hw)) Via.refl d_jdk_38_method_2_8 0 rfl 1 rfl (Or.inl (w61 hw)) (w39 hw) (ty := (.array (.object "java/lang/Object"))) (by decide) rfl rfl 11 rfl fun T3 S3 => ?_
  replace S3 := S3.as (L' := [(t, O_ArrayList Z (.int (0 : Int32)) (.ref dc) (.int (0 : Int32)))]) (M' := []) (cells' := 0) (slots' := 0) rfl rfl rfl rfl
  exact C.retV S3 d_jdk_38_method_2_11 [0] rfl (by decide) [] rfl fa0 ⟨rfl, rfl, rfl⟩ rfl (leD rfl) (leD rfl)
theorem d_jdk_38_method_8_0 : decode jdk_38_method_8_code 0 = .ok (.aload_n 0, 1) := by decide +kernel
theorem d_jdk_38_method_8_1 : decode jdk_38_method_8_code 1 = .ok (.getfield 48, 3) := by decide +kernel
theorem d_jdk_38_method_8_4 : decode jdk_38_method_8_code 4 = .ok (.ireturn, 1) := by decide +kernel
theorem ef_alSize {t : Addr} (m : MethodId) : entryFrame m #[(.ref t)] 1 = mkF m 0 #[.val (.ref t)] [] := by first | (simp [entryFrame, mkF, argsToLocals, Value.category]; done) | rfl
set_option maxRecDepth 65536 in
set_option maxHeartbeats 40000000 in
theorem alSize {lch : Launch} {Z : State} {a0 : Array Value} {cst : Int32} {dc : Addr} (hw : Hw a0 Z) (hCS : Sta Z Z.heap "java/lang/String" "COMPACT_STRINGS" "Z" (.int cst)) (hcs : ¬ cst = 0) (hD : Sta Z Z.heap "java/util/ArrayList" "DEFAULTCAPACITY_EMPTY_ELEMENTDATA" "[Ljava/lang/Object;" (.ref dc)) (hDA : ∃ c, Z.heap[dc]? = some c ∧ Ary Z (.object "java/lang/Object") [] c) (t : Addr) (mc : Int32) (ed : Value) (sz : Int32) :
    Con lch Z (⟨"java/util/ArrayList", "size", "()I"⟩ : MethodName) jdk_38_method_8_code 1 (Option.some Jvm.ClassFile.FieldType.int) ({ frames := 0, cells := 0, slots := 0, locals := 0 } : Room) #[(.ref t)] [(t, O_ArrayList Z (.int mc) ed (.int sz))] []
      (fun rv L1 M1 => rv = some (.int sz) ∧ L1 = [(t, O_ArrayList Z (.int mc) ed (.int sz))] ∧ M1 = []) := by
  refine Con.of_body (plainFor_of_name pn4) (fun m => ef_alSize m) ?_
  intro p e s m below meth c T0 h0 C S0
  refine C.aloadN S0 d_jdk_38_method_8_0 1 rfl rfl rfl ?_
  refine C.getfield S0 (host := "") (Or.inl (w81 hw)) Via.refl d_jdk_38_method_8_1 (S0.fld 0 rfl 2 rfl) 4 rfl fun T1 S1 => ?_
  exact C.retI S1 d_jdk_38_method_8_4 [0] rfl (by decide) [] rfl fa0 ⟨rfl, rfl, rfl⟩ rfl (leD rfl) (leD rfl)
theorem d_jdk_29_method_65_0 : decode jdk_29_method_65_code 0 = .ok (.iload_n 0, 1) := by decide +kernel
theorem d_jdk_29_method_65_1 : decode jdk_29_method_65_code 1 = .ok (.iload_n 1, 1) := by decide +kernel
theorem d_jdk_29_method_65_2 : decode jdk_29_method_65_code 2 = .ok (.if_icmp .lt 7, 3) := by decide +kernel
theorem d_jdk_29_method_65_5 : decode jdk_29_method_65_code 5 = .ok (.iload_n 0, 1) := by decide +kernel
theorem d_jdk_29_method_65_6 : decode jdk_29_method_65_code 6 = .ok (.goto 4, 3) := by decide +kernel
theorem d_jdk_29_method_65_10 : decode jdk_29_method_65_code 10 = .ok (.ireturn, 1) := by decide +kernel
theorem ef_maxI (m : MethodId) : entryFrame m #[(.int (10 : Int32)), (.int (1 : Int32))] 2 = mkF m 0 #[.val (.int (10 : Int32)), .val (.int (1 : Int32))] [] := by first | (simp [entryFrame, mkF, argsToLocals, Value.category]; done) | rfl
set_option maxRecDepth 65536 in
set_option maxHeartbeats 40000000 in
theorem maxI {lch : Launch} {Z : State} {a0 : Array Value} {cst : Int32} {dc : Addr} (hw : Hw a0 Z) (hCS : Sta Z Z.heap "java/lang/String" "COMPACT_STRINGS" "Z" (.int cst)) (hcs : ¬ cst = 0) (hD : Sta Z Z.heap "java/util/ArrayList" "DEFAULTCAPACITY_EMPTY_ELEMENTDATA" "[Ljava/lang/Object;" (.ref dc)) (hDA : ∃ c, Z.heap[dc]? = some c ∧ Ary Z (.object "java/lang/Object") [] c) :
    Con lch Z (⟨"java/lang/Math", "max", "(II)I"⟩ : MethodName) jdk_29_method_65_code 2 (Option.some Jvm.ClassFile.FieldType.int) ({ frames := 0, cells := 0, slots := 0, locals := 0 } : Room) #[(.int (10 : Int32)), (.int (1 : Int32))] [] []
      (fun rv L1 M1 => rv = some (.int (10 : Int32)) ∧ L1 = [] ∧ M1 = []) := by
  refine Con.of_body (Jvm.Free.JP.mathPlain rfl (by decide +kernel)) (fun m => ef_maxI m) ?_
  intro p e s m below meth c T0 h0 C S0
  refine C.iloadN S0 d_jdk_29_method_65_0 1 rfl rfl ?_
  refine C.iloadN S0 d_jdk_29_method_65_1 2 rfl rfl ?_
  refine C.icmp_lt S0 d_jdk_29_method_65_2 9 5 (by decide) (by decide) rfl (fun hc1 => absurd hc1 (by decide)) fun hc1 => ?_
  refine C.iloadN S0 d_jdk_29_method_65_5 6 rfl rfl ?_
  refine C.goto S0 d_jdk_29_method_65_6 10 (by decide) (by decide) ?_
  exact C.retI S0 d_jdk_29_method_65_10 [] rfl (by decide) [] rfl fa0 ⟨rfl, rfl, rfl⟩ rfl (leD rfl) (leD rfl)
theorem d_jdk_38_method_6_0 : decode jdk_38_method_6_code 0 = .ok (.aload_n 0, 1) := by decide +kernel
theorem d_jdk_38_method_6_1 : decode jdk_38_method_6_code 1 = .ok (.getfield 9, 3) := by decide +kernel
theorem d_jdk_38_method_6_4 : decode jdk_38_method_6_code 4 = .ok (.arraylength, 1) := by decide +kernel
theorem d_jdk_38_method_6_5 : decode jdk_38_method_6_code 5 = .ok (.istore_n 2, 1) := by decide +kernel
theorem d_jdk_38_method_6_6 : decode jdk_38_method_6_code 6 = .ok (.iload_n 2, 1) := by decide +kernel
theorem d_jdk_38_method_6_7 : decode jdk_38_method_6_code 7 = .ok (.ifCond .gt 13, 3) := by decide +kernel
theorem d_jdk_38_method_6_10 : decode jdk_38_method_6_code 10 = .ok (.aload_n 0, 1) := by decide +kernel
theorem d_jdk_38_method_6_11 : decode jdk_38_method_6_code 11 = .ok (.getfield 9, 3) := by decide +kernel
theorem d_jdk_38_method_6_14 : decode jdk_38_method_6_code 14 = .ok (.getstatic 39, 3) := by decide +kernel
theorem d_jdk_38_method_6_17 : decode jdk_38_method_6_code 17 = .ok (.if_acmp .eq 28, 3) := by decide +kernel
theorem d_jdk_38_method_6_45 : decode jdk_38_method_6_code 45 = .ok (.aload_n 0, 1) := by decide +kernel
theorem d_jdk_38_method_6_46 : decode jdk_38_method_6_code 46 = .ok (.bipush 10, 2) := by decide +kernel
theorem d_jdk_38_method_6_48 : decode jdk_38_method_6_code 48 = .ok (.iload_n 1, 1) := by decide +kernel
theorem d_jdk_38_method_6_49 : decode jdk_38_method_6_code 49 = .ok (.invokestatic 79, 3) := by decide +kernel
theorem pd5 : parseMethodDescriptor "(II)I" = some ⟨[.int, .int], some .int⟩ := by decide +kernel
theorem d_jdk_38_method_6_52 : decode jdk_38_method_6_code 52 = .ok (.anewarray 7, 3) := by decide +kernel
theorem d_jdk_38_method_6_55 : decode jdk_38_method_6_code 55 = .ok (.dup_x1, 1) := by decide +kernel
theorem d_jdk_38_method_6_56 : decode jdk_38_method_6_code 56 = .ok (.putfield 9, 3) := by decide +kernel
theorem d_jdk_38_method_6_59 : decode jdk_38_method_6_code 59 = .ok (.areturn, 1) := by decide +kernel
theorem ef_grow1 {t : Addr} (m : MethodId) : entryFrame m #[(.ref t), (.int (1 : Int32))] 4 = mkF m 0 #[.val (.ref t), .val (.int (1 : Int32)), .unset, .unset] [] := by first | (simp [entryFrame, mkF, argsToLocals, Value.category]; done) | rfl
set_option maxRecDepth 65536 in
set_option maxHeartbeats 40000000 in
theorem grow1 {lch : Launch} {Z : State} {a0 : Array Value} {cst : Int32} {dc : Addr} (hw : Hw a0 Z) (hCS : Sta Z Z.heap "java/lang/String" "COMPACT_STRINGS" "Z" (.int cst)) (hcs : ¬ cst = 0) (hD : Sta Z Z.heap "java/util/ArrayList" "DEFAULTCAPACITY_EMPTY_ELEMENTDATA" "[Ljava/lang/Object;" (.ref dc)) (hDA : ∃ c, Z.heap[dc]? = some c ∧ Ary Z (.object "java/lang/Object") [] c) (t : Addr) (mc : Int32) :
    Con lch Z (⟨"java/util/ArrayList", "grow", "(I)[Ljava/lang/Object;"⟩ : MethodName) jdk_38_method_6_code 4 (Option.some (Jvm.ClassFile.FieldType.array (Jvm.ClassFile.FieldType.object "java/lang/Object"))) ({ frames := 1, cells := 1, slots := 10, locals := 14 } : Room) #[(.ref t), (.int (1 : Int32))] [(t, O_ArrayList Z (.int mc) (.ref dc) (.int (0 : Int32)))] []
      (fun rv L1 M1 => ∃ (b : Addr), rv = some (.ref b) ∧ L1 = [(t, O_ArrayList Z (.int mc) (.ref b) (.int (0 : Int32))), (b, AryR Z "java/lang/Object" [.null, .null, .null, .null, .null, .null, .null, .null, .null, .null])] ∧ M1 = []) := by
  refine Con.of_body (plainFor_of_name pn4) (fun m => ef_grow1 m) ?_
  intro p e s m below meth c T0 h0 C S0
  refine C.aloadN S0 d_jdk_38_method_6_0 1 rfl rfl rfl ?_
  refine C.getfield S0 (host := "") (Or.inl (w60 hw)) Via.refl d_jdk_38_method_6_1 (S0.fld 0 rfl 1 rfl) 4 rfl fun T1 S1 => ?_
  refine C.arraylength S1 (S1.oldA hDA) d_jdk_38_method_6_4 5 rfl (0 : Int32) rfl ?_
  refine C.istoreN S1 d_jdk_38_method_6_5 6 rfl #[.val (.ref t), .val (.int (1 : Int32)), .val (.int (0 : Int32)), .unset] rfl ?_
  refine C.iloadN S1 d_jdk_38_method_6_6 7 rfl rfl ?_
  refine C.if_gt S1 d_jdk_38_method_6_7 20 10 (by decide) (by decide) rfl (fun hc2 => absurd hc2 (by decide)) fun hc2 => ?_
  refine C.aloadN S1 d_jdk_38_method_6_10 11 rfl rfl rfl ?_
  refine C.getfield S1 (host := "") (Or.inl (w60 hw)) Via.refl d_jdk_38_method_6_11 (S1.fld 0 rfl 1 rfl) 14 rfl fun T3 S3 => ?_
  refine C.getstatic S3 (host := "") (Or.inl (w59 hw)) Via.refl d_jdk_38_method_6_14 hD 17 rfl fun T4 S4 => ?_
  refine C.acmp_eq S4 d_jdk_38_method_6_17 rfl rfl 45 20 (by decide) (by decide) rfl (fun hc5 => ?_) fun hc5 => absurd rfl hc5
  refine C.aloadN S4 d_jdk_38_method_6_45 46 rfl rfl rfl ?_
  refine C.bipush S4 d_jdk_38_method_6_46 48 rfl (10 : Int32) rfl ?_
  refine C.iloadN S4 d_jdk_38_method_6_48 49 rfl rfl ?_
  refine C.callStatic S4 (w108 hw) (w109 hw) (w110 hw) (w111 hw) (by decide) (maxI hw hCS hcs hD hDA) d_jdk_38_method_6_49 52 rfl rfl pd5 [(.int (10 : Int32)), (.int (1 : Int32))] [(.ref t)] rfl rfl rfl [] rfl (by decide) rfl [] rfl (leD rfl) (leD rfl) (leD rfl) (leD rfl) ?_
  rintro T6 _ _ _ ⟨rfl, rfl, rfl⟩ hro6 S6
  replace S6 := S6.as (L' := [(t, O_ArrayList Z (.int mc) (.ref dc) (.int (0 : Int32)))]) (M' := []) (cells' := 0) (slots' := 0) rfl rfl rfl rfl
  show Go p e below _ (T6.setTop (mkF m 52 #[.val (.ref t), .val (.int (1 : Int32)), .val (.int (0 : Int32)), .unset] [(.int (10 : Int32)), (.ref t)]))
  refine C.anewarray S6 (w112 hw) (w113 hw) d_jdk_38_method_6_52 55 rfl (by decide) 10 rfl 10 (leD rfl) (by decide) (leD rfl) (leD rfl) fun T7 b7 S7 => ?_
  replace S7 := S7.as (L' := [(t, O_ArrayList Z (.int mc) (.ref dc) (.int (0 : Int32))), (b7, AryR Z "java/lang/Object" [.null, .null, .null, .null, .null, .null, .null, .null, .null, .null])]) (M' := []) (cells' := 1) (slots' := 10) rfl rfl rfl rfl
  refine C.dupX1 S7 d_jdk_38_method_6_55 56 rfl rfl rfl ?_
  refine C.putfield S7 (host := "") (Or.inl (w60 hw)) Via.refl d_jdk_38_method_6_56 0 rfl 1 rfl (Or.inl (w61 hw)) (w39 hw) (ty := (.array (.object "java/lang/Object"))) (by decide) rfl rfl 59 rfl fun T8 S8 => ?_
  replace S8 := S8.as (L' := [(t, O_ArrayList Z (.int mc) (.ref b7) (.int (0 : Int32))), (b7, AryR Z "java/lang/Object" [.null, .null, .null, .null, .null, .null, .null, .null, .null, .null])]) (M' := []) (cells' := 1) (slots' := 10) rfl rfl rfl rfl
  exact C.retA S8 rfl rfl d_jdk_38_method_6_59 [0, 1] rfl (by decide) [] rfl fa0 ⟨b7, rfl, rfl, rfl⟩ rfl (leD rfl) (leD rfl)
theorem d_jdk_38_method_7_0 : decode jdk_38_method_7_code 0 = .ok (.aload_n 0, 1) := by decide +kernel
theorem d_jdk_38_method_7_1 : decode jdk_38_method_7_code 1 = .ok (.aload_n 0, 1) := by decide +kernel
theorem d_jdk_38_method_7_2 : decode jdk_38_method_7_code 2 = .ok (.getfield 48, 3) := by decide +kernel
theorem d_jdk_38_method_7_5 : decode jdk_38_method_7_code 5 = .ok (.iconst 1, 1) := by decide +kernel
theorem d_jdk_38_method_7_6 : decode jdk_38_method_7_code 6 = .ok (.iadd, 1) := by decide +kernel
theorem d_jdk_38_method_7_7 : decode jdk_38_method_7_code 7 = .ok (.invokevirtual 69, 3) := by decide +kernel
theorem pd6 : parseMethodDescriptor "(I)[Ljava/lang/Object;" = some ⟨[.int], some (.array (.object "java/lang/Object"))⟩ := by decide +kernel
theorem d_jdk_38_method_7_10 : decode jdk_38_method_7_code 10 = .ok (.areturn, 1) := by decide +kernel
theorem ef_grow0 {t : Addr} (m : MethodId) : entryFrame m #[(.ref t)] 1 = mkF m 0 #[.val (.ref t)] [] := by first | (simp [entryFrame, mkF, argsToLocals, Value.category]; done) | rfl
set_option maxRecDepth 65536 in
set_option maxHeartbeats 40000000 in
theorem grow0 {lch : Launch} {Z : State} {a0 : Array Value} {cst : Int32} {dc : Addr} (hw : Hw a0 Z) (hCS : Sta Z Z.heap "java/lang/String" "COMPACT_STRINGS" "Z" (.int cst)) (hcs : ¬ cst = 0) (hD : Sta Z Z.heap "java/util/ArrayList" "DEFAULTCAPACITY_EMPTY_ELEMENTDATA" "[Ljava/lang/Object;" (.ref dc)) (hDA : ∃ c, Z.heap[dc]? = some c ∧ Ary Z (.object "java/lang/Object") [] c) (t : Addr) (mc : Int32) :
    Con lch Z (⟨"java/util/ArrayList", "grow", "()[Ljava/lang/Object;"⟩ : MethodName) jdk_38_method_7_code 1 (Option.some (Jvm.ClassFile.FieldType.array (Jvm.ClassFile.FieldType.object "java/lang/Object"))) ({ frames := 2, cells := 1, slots := 10, locals := 29 } : Room) #[(.ref t)] [(t, O_ArrayList Z (.int mc) (.ref dc) (.int (0 : Int32)))] []
      (fun rv L1 M1 => ∃ (b : Addr), rv = some (.ref b) ∧ L1 = [(t, O_ArrayList Z (.int mc) (.ref b) (.int (0 : Int32))), (b, AryR Z "java/lang/Object" [.null, .null, .null, .null, .null, .null, .null, .null, .null, .null])] ∧ M1 = []) := by
  refine Con.of_body (plainFor_of_name pn4) (fun m => ef_grow0 m) ?_
  intro p e s m below meth c T0 h0 C S0
  refine C.aloadN S0 d_jdk_38_method_7_0 1 rfl rfl rfl ?_
  refine C.aloadN S0 d_jdk_38_method_7_1 2 rfl rfl rfl ?_
  refine C.getfield S0 (host := "") (Or.inl (w81 hw)) Via.refl d_jdk_38_method_7_2 (S0.fld 0 rfl 2 rfl) 5 rfl fun T1 S1 => ?_
  refine C.iconst S1 d_jdk_38_method_7_5 6 rfl (1 : Int32) rfl ?_
  refine C.iadd S1 d_jdk_38_method_7_6 7 rfl (1 : Int32) (by decide) ?_
  refine C.callPrivate S1 (S1.exa 0 rfl) (w103 hw) (w104 hw) (w106 hw) (w105 hw) (w40 hw) (w107 hw) (by decide) (grow1 hw hCS hcs hD hDA t mc) d_jdk_38_method_7_7 10 rfl rfl pd6 [(.int (1 : Int32))] [] rfl rfl rfl [0] rfl (by decide) rfl [] rfl (leD rfl) (leD rfl) (leD rfl) (leD rfl) ?_
  rintro T2 _ _ _ ⟨b3, rfl, rfl, rfl⟩ hro2 S2
  replace S2 := S2.as (L' := [(t, O_ArrayList Z (.int mc) (.ref b3) (.int (0 : Int32))), (b3, AryR Z "java/lang/Object" [.null, .null, .null, .null, .null, .null, .null, .null, .null, .null])]) (M' := []) (cells' := 1) (slots' := 10) rfl rfl rfl rfl
  show Go p e below _ (T2.setTop (mkF m 10 #[.val (.ref t)] [(.ref b3)]))
  exact C.retA S2 rfl rfl d_jdk_38_method_7_10 [0, 1] rfl (by decide) [] rfl fa0 ⟨b3, rfl, rfl, rfl⟩ rfl (leD rfl) (leD rfl)
theorem d_jdk_38_method_24_0 : decode jdk_38_method_24_code 0 = .ok (.iload_n 3, 1) := by decide +kernel
theorem d_jdk_38_method_24_1 : decode jdk_38_method_24_code 1 = .ok (.aload_n 2, 1) := by decide +kernel
theorem d_jdk_38_method_24_2 : decode jdk_38_method_24_code 2 = .ok (.arraylength, 1) := by decide +kernel
theorem d_jdk_38_method_24_3 : decode jdk_38_method_24_code 3 = .ok (.if_icmp .ne 8, 3) := by decide +kernel
theorem d_jdk_38_method_24_6 : decode jdk_38_method_24_code 6 = .ok (.aload_n 0, 1) := by decide +kernel
theorem d_jdk_38_method_24_7 : decode jdk_38_method_24_code 7 = .ok (.invokevirtual 129, 3) := by decide +kernel
theorem pd7 : parseMethodDescriptor "()[Ljava/lang/Object;" = some ⟨[], some (.array (.object "java/lang/Object"))⟩ := by decide +kernel
theorem d_jdk_38_method_24_10 : decode jdk_38_method_24_code 10 = .ok (.astore_n 2, 1) := by decide +kernel
theorem d_jdk_38_method_24_11 : decode jdk_38_method_24_code 11 = .ok (.aload_n 2, 1) := by decide +kernel
theorem d_jdk_38_method_24_12 : decode jdk_38_method_24_code 12 = .ok (.iload_n 3, 1) := by decide +kernel
theorem d_jdk_38_method_24_13 : decode jdk_38_method_24_code 13 = .ok (.aload_n 1, 1) := by decide +kernel
theorem d_jdk_38_method_24_14 : decode jdk_38_method_24_code 14 = .ok (.aastore, 1) := by decide +kernel
theorem d_jdk_38_method_24_15 : decode jdk_38_method_24_code 15 = .ok (.aload_n 0, 1) := by decide +kernel
theorem d_jdk_38_method_24_16 : decode jdk_38_method_24_code 16 = .ok (.iload_n 3, 1) := by decide +kernel
theorem d_jdk_38_method_24_17 : decode jdk_38_method_24_code 17 = .ok (.iconst 1, 1) := by decide +kernel
theorem d_jdk_38_method_24_18 : decode jdk_38_method_24_code 18 = .ok (.iadd, 1) := by decide +kernel
theorem d_jdk_38_method_24_19 : decode jdk_38_method_24_code 19 = .ok (.putfield 48, 3) := by decide +kernel
theorem d_jdk_38_method_24_22 : decode jdk_38_method_24_code 22 = .ok (.return_, 1) := by decide +kernel
theorem ef_alAdd3_0 {t : Addr} {w : Addr} (m : MethodId) : entryFrame m #[(.ref t), (.ref w), (.ref dc), (.int (0 : Int32))] 4 = mkF m 0 #[.val (.ref t), .val (.ref w), .val (.ref dc), .val (.int (0 : Int32))] [] := by first | (simp [entryFrame, mkF, argsToLocals, Value.category]; done) | rfl
set_option maxRecDepth 65536 in
set_option maxHeartbeats 40000000 in
theorem alAdd3_0 {lch : Launch} {Z : State} {a0 : Array Value} {cst : Int32} {dc : Addr} (hw : Hw a0 Z) (hCS : Sta Z Z.heap "java/lang/String" "COMPACT_STRINGS" "Z" (.int cst)) (hcs : ¬ cst = 0) (hD : Sta Z Z.heap "java/util/ArrayList" "DEFAULTCAPACITY_EMPTY_ELEMENTDATA" "[Ljava/lang/Object;" (.ref dc)) (hDA : ∃ c, Z.heap[dc]? = some c ∧ Ary Z (.object "java/lang/Object") [] c) (t : Addr) (mc : Int32) (w : Addr) (wv : Addr) :
    Con lch Z (⟨"java/util/ArrayList", "add", "(Ljava/lang/Object;[Ljava/lang/Object;I)V"⟩ : MethodName) jdk_38_method_24_code 4 (Option.none : Option Jvm.ClassFile.FieldType) ({ frames := 3, cells := 1, slots := 10, locals := 41 } : Room) #[(.ref t), (.ref w), (.ref dc), (.int (0 : Int32))] [(t, O_ArrayList Z (.int mc) (.ref dc) (.int (0 : Int32))), (w, O_String Z (.int (0 : Int32)) (.ref wv))] []
      (fun rv L1 M1 => ∃ (b : Addr), rv = none ∧ L1 = [(t, O_ArrayList Z (.int mc) (.ref b) (.int (1 : Int32))), (w, O_String Z (.int (0 : Int32)) (.ref wv)), (b, AryR Z "java/lang/Object" [(.ref w), .null, .null, .null, .null, .null, .null, .null, .null, .null])] ∧ M1 = []) := by
  refine Con.of_body (plainFor_of_name pn4) (fun m => ef_alAdd3_0 m) ?_
  intro p e s m below meth c T0 h0 C S0
  refine C.iloadN S0 d_jdk_38_method_24_0 1 rfl rfl ?_
  refine C.aloadN S0 d_jdk_38_method_24_1 2 rfl rfl rfl ?_
  refine C.arraylength S0 (S0.oldA hDA) d_jdk_38_method_24_2 3 rfl (0 : Int32) rfl ?_
  refine C.icmp_ne S0 d_jdk_38_method_24_3 11 6 (by decide) (by decide) rfl (fun hc1 => absurd hc1 (by decide)) fun hc1 => ?_
  refine C.aloadN S0 d_jdk_38_method_24_6 7 rfl rfl rfl ?_
  refine C.callPrivate S0 (S0.exa 0 rfl) (w98 hw) (w99 hw) (w101 hw) (w100 hw) (w40 hw) (w102 hw) (by decide) (grow0 hw hCS hcs hD hDA t mc) d_jdk_38_method_24_7 10 rfl rfl pd7 [] [] rfl rfl rfl [0] rfl (by decide) rfl [] rfl (leD rfl) (leD rfl) (leD rfl) (leD rfl) ?_
  rintro T2 _ _ _ ⟨b3, rfl, rfl, rfl⟩ hro2 S2
  replace S2 := S2.as (L' := [(t, O_ArrayList Z (.int mc) (.ref b3) (.int (0 : Int32))), (w, O_String Z (.int (0 : Int32)) (.ref wv)), (b3, AryR Z "java/lang/Object" [.null, .null, .null, .null, .null, .null, .null, .null, .null, .null])]) (M' := []) (cells' := 1) (slots' := 10) rfl rfl rfl rfl
  show Go p e below _ (T2.setTop (mkF m 10 #[.val (.ref t), .val (.ref w), .val (.ref dc), .val (.int (0 : Int32))] [(.ref b3)]))
  refine C.astoreN S2 d_jdk_38_method_24_10 11 rfl rfl #[.val (.ref t), .val (.ref w), .val (.ref b3), .val (.int (0 : Int32))] rfl ?_
  refine C.aloadN S2 d_jdk_38_method_24_11 12 rfl rfl rfl ?_
  refine C.iloadN S2 d_jdk_38_method_24_12 13 rfl rfl ?_
  refine C.aloadN S2 d_jdk_38_method_24_13 14 rfl rfl rfl ?_
  refine C.aastore S2 2 rfl (S2.sto (a0 := a0) 2 rfl (S2.exa 1 rfl) (Or.inr (w114 hw))) rfl d_jdk_38_method_24_14 15 rfl (by decide) 0 rfl (leD rfl) fun T4 S4 => ?_
  replace S4 := S4.as (L' := [(t, O_ArrayList Z (.int mc) (.ref b3) (.int (0 : Int32))), (w, O_String Z (.int (0 : Int32)) (.ref wv)), (b3, AryR Z "java/lang/Object" [(.ref w), .null, .null, .null, .null, .null, .null, .null, .null, .null])]) (M' := []) (cells' := 1) (slots' := 10) rfl rfl rfl rfl
  refine C.aloadN S4 d_jdk_38_method_24_15 16 rfl rfl rfl ?_
  refine C.iloadN S4 d_jdk_38_method_24_16 17 rfl rfl ?_
  refine C.iconst S4 d_jdk_38_method_24_17 18 rfl (1 : Int32) rfl ?_
  refine C.iadd S4 d_jdk_38_method_24_18 19 rfl (1 : Int32) (by decide) ?_
  refine C.putfield S4 (host := "") (Or.inl (w81 hw)) Via.refl d_jdk_38_method_24_19 0 rfl 2 rfl (Or.inl (w82 hw)) (w39 hw) (ty := .int) (by decide) rfl rfl 22 rfl fun T5 S5 => ?_
  replace S5 := S5.as (L' := [(t, O_ArrayList Z (.int mc) (.ref b3) (.int (1 : Int32))), (w, O_String Z (.int (0 : Int32)) (.ref wv)), (b3, AryR Z "java/lang/Object" [(.ref w), .null, .null, .null, .null, .null, .null, .null, .null, .null])]) (M' := []) (cells' := 1) (slots' := 10) rfl rfl rfl rfl
  exact C.retV S5 d_jdk_38_method_24_22 [0, 1, 2] rfl (by decide) [] rfl fa0 ⟨b3, rfl, rfl, rfl⟩ rfl (leD rfl) (leD rfl)
theorem d_jdk_38_method_25_0 : decode jdk_38_method_25_code 0 = .ok (.aload_n 0, 1) := by decide +kernel
theorem d_jdk_38_method_25_1 : decode jdk_38_method_25_code 1 = .ok (.dup, 1) := by decide +kernel
theorem d_jdk_38_method_25_2 : decode jdk_38_method_25_code 2 = .ok (.getfield 63, 3) := by decide +kernel
theorem d_jdk_38_method_25_5 : decode jdk_38_method_25_code 5 = .ok (.iconst 1, 1) := by decide +kernel
theorem d_jdk_38_method_25_6 : decode jdk_38_method_25_code 6 = .ok (.iadd, 1) := by decide +kernel
theorem d_jdk_38_method_25_7 : decode jdk_38_method_25_code 7 = .ok (.putfield 63, 3) := by decide +kernel
theorem d_jdk_38_method_25_10 : decode jdk_38_method_25_code 10 = .ok (.aload_n 0, 1) := by decide +kernel
theorem d_jdk_38_method_25_11 : decode jdk_38_method_25_code 11 = .ok (.aload_n 1, 1) := by decide +kernel
theorem d_jdk_38_method_25_12 : decode jdk_38_method_25_code 12 = .ok (.aload_n 0, 1) := by decide +kernel
theorem d_jdk_38_method_25_13 : decode jdk_38_method_25_code 13 = .ok (.getfield 9, 3) := by decide +kernel
theorem d_jdk_38_method_25_16 : decode jdk_38_method_25_code 16 = .ok (.aload_n 0, 1) := by decide +kernel
theorem d_jdk_38_method_25_17 : decode jdk_38_method_25_code 17 = .ok (.getfield 48, 3) := by decide +kernel
theorem d_jdk_38_method_25_20 : decode jdk_38_method_25_code 20 = .ok (.invokevirtual 131, 3) := by decide +kernel
theorem pd8 : parseMethodDescriptor "(Ljava/lang/Object;[Ljava/lang/Object;I)V" = some ⟨[(.object "java/lang/Object"), (.array (.object "java/lang/Object")), .int], none⟩ := by decide +kernel
theorem d_jdk_38_method_25_23 : decode jdk_38_method_25_code 23 = .ok (.iconst 1, 1) := by decide +kernel
theorem d_jdk_38_method_25_24 : decode jdk_38_method_25_code 24 = .ok (.ireturn, 1) := by decide +kernel
theorem ef_alAdd_0 {t : Addr} {w : Addr} (m : MethodId) : entryFrame m #[(.ref t), (.ref w)] 2 = mkF m 0 #[.val (.ref t), .val (.ref w)] [] := by first | (simp [entryFrame, mkF, argsToLocals, Value.category]; done) | rfl
set_option maxRecDepth 65536 in
set_option maxHeartbeats 40000000 in
theorem alAdd_0 {lch : Launch} {Z : State} {a0 : Array Value} {cst : Int32} {dc : Addr} (hw : Hw a0 Z) (hCS : Sta Z Z.heap "java/lang/String" "COMPACT_STRINGS" "Z" (.int cst)) (hcs : ¬ cst = 0) (hD : Sta Z Z.heap "java/util/ArrayList" "DEFAULTCAPACITY_EMPTY_ELEMENTDATA" "[Ljava/lang/Object;" (.ref dc)) (hDA : ∃ c, Z.heap[dc]? = some c ∧ Ary Z (.object "java/lang/Object") [] c) (t : Addr) (mc : Int32) (w : Addr) (wv : Addr) :
    Con lch Z (⟨"java/util/ArrayList", "add", "(Ljava/lang/Object;)Z"⟩ : MethodName) jdk_38_method_25_code 2 (Option.some Jvm.ClassFile.FieldType.boolean) ({ frames := 4, cells := 1, slots := 10, locals := 56 } : Room) #[(.ref t), (.ref w)] [(t, O_ArrayList Z (.int mc) (.ref dc) (.int (0 : Int32))), (w, O_String Z (.int (0 : Int32)) (.ref wv))] []
      (fun rv L1 M1 => ∃ (b : Addr), rv = some (.int (1 : Int32)) ∧ L1 = [(t, O_ArrayList Z (.int (mc + (1 : Int32))) (.ref b) (.int (1 : Int32))), (w, O_String Z (.int (0 : Int32)) (.ref wv)), (b, AryR Z "java/lang/Object" [(.ref w), .null, .null, .null, .null, .null, .null, .null, .null, .null])] ∧ M1 = []) := by
  refine Con.of_body (plainFor_of_name pn4) (fun m => ef_alAdd_0 m) ?_
  intro p e s m below meth c T0 h0 C S0
  refine C.aloadN S0 d_jdk_38_method_25_0 1 rfl rfl rfl ?_
  refine C.dup S0 d_jdk_38_method_25_1 2 rfl rfl ?_
  refine C.getfield S0 (host := "") (Or.inl (w91 hw)) (Via.of (w92 hw)) d_jdk_38_method_25_2 (S0.fld 0 rfl 0 rfl) 5 rfl fun T1 S1 => ?_
  refine C.iconst S1 d_jdk_38_method_25_5 6 rfl (1 : Int32) rfl ?_
  refine C.iadd S1 d_jdk_38_method_25_6 7 rfl (mc + (1 : Int32)) rfl ?_
  refine C.putfield S1 (host := "") (Or.inl (w91 hw)) (Via.of (w92 hw)) d_jdk_38_method_25_7 0 rfl 0 rfl (Or.inl (w58 hw)) (w39 hw) (ty := .int) (by decide) rfl rfl 10 rfl fun T2 S2 => ?_
  replace S2 := S2.as (L' := [(t, O_ArrayList Z (.int (mc + (1 : Int32))) (.ref dc) (.int (0 : Int32))), (w, O_String Z (.int (0 : Int32)) (.ref wv))]) (M' := []) (cells' := 0) (slots' := 0) rfl rfl rfl rfl
  refine C.aloadN S2 d_jdk_38_method_25_10 11 rfl rfl rfl ?_
  refine C.aloadN S2 d_jdk_38_method_25_11 12 rfl rfl rfl ?_
  refine C.aloadN S2 d_jdk_38_method_25_12 13 rfl rfl rfl ?_
  refine C.getfield S2 (host := "") (Or.inl (w60 hw)) Via.refl d_jdk_38_method_25_13 (S2.fld 0 rfl 1 rfl) 16 rfl fun T3 S3 => ?_
  refine C.aloadN S3 d_jdk_38_method_25_16 17 rfl rfl rfl ?_
  refine C.getfield S3 (host := "") (Or.inl (w81 hw)) Via.refl d_jdk_38_method_25_17 (S3.fld 0 rfl 2 rfl) 20 rfl fun T4 S4 => ?_
  refine C.callPrivate S4 (S4.exa 0 rfl) (w93 hw) (w94 hw) (w96 hw) (w95 hw) (w40 hw) (w97 hw) (by decide) (alAdd3_0 hw hCS hcs hD hDA t (mc + (1 : Int32)) w wv) d_jdk_38_method_25_20 23 rfl rfl pd8 [(.ref w), (.ref dc), (.int (0 : Int32))] [] rfl rfl rfl [0, 1] rfl (by decide) rfl [] rfl (leD rfl) (leD rfl) (leD rfl) (leD rfl) ?_
  rintro T5 _ _ _ ⟨b6, rfl, rfl, rfl⟩ hro5 S5
  replace S5 := S5.as (L' := [(t, O_ArrayList Z (.int (mc + (1 : Int32))) (.ref b6) (.int (1 : Int32))), (w, O_String Z (.int (0 : Int32)) (.ref wv)), (b6, AryR Z "java/lang/Object" [(.ref w), .null, .null, .null, .null, .null, .null, .null, .null, .null])]) (M' := []) (cells' := 1) (slots' := 10) rfl rfl rfl rfl
  show Go p e below _ (T5.setTop (mkF m 23 #[.val (.ref t), .val (.ref w)] []))
  refine C.iconst S5 d_jdk_38_method_25_23 24 rfl (1 : Int32) rfl ?_
  exact C.retN S5 (by simp) d_jdk_38_method_25_24 (1 : Int32) (by decide) [0, 1, 2] rfl (by decide) [] rfl fa0 ⟨b6, rfl, rfl, rfl⟩ rfl (leD rfl) (leD rfl)
theorem ef_alAdd3_1 {t : Addr} {w : Addr} {b : Addr} (m : MethodId) : entryFrame m #[(.ref t), (.ref w), (.ref b), (.int (1 : Int32))] 4 = mkF m 0 #[.val (.ref t), .val (.ref w), .val (.ref b), .val (.int (1 : Int32))] [] := by first | (simp [entryFrame, mkF, argsToLocals, Value.category]; done) | rfl
set_option maxRecDepth 65536 in
set_option maxHeartbeats 40000000 in
theorem alAdd3_1 {lch : Launch} {Z : State} {a0 : Array Value} {cst : Int32} {dc : Addr} (hw : Hw a0 Z) (hCS : Sta Z Z.heap "java/lang/String" "COMPACT_STRINGS" "Z" (.int cst)) (hcs : ¬ cst = 0) (hD : Sta Z Z.heap "java/util/ArrayList" "DEFAULTCAPACITY_EMPTY_ELEMENTDATA" "[Ljava/lang/Object;" (.ref dc)) (hDA : ∃ c, Z.heap[dc]? = some c ∧ Ary Z (.object "java/lang/Object") [] c) (t : Addr) (mc : Int32) (w : Addr) (wv : Addr) (b : Addr) (v0 : Addr) :
    Con lch Z (⟨"java/util/ArrayList", "add", "(Ljava/lang/Object;[Ljava/lang/Object;I)V"⟩ : MethodName) jdk_38_method_24_code 4 (Option.none : Option Jvm.ClassFile.FieldType) ({ frames := 0, cells := 0, slots := 0, locals := 0 } : Room) #[(.ref t), (.ref w), (.ref b), (.int (1 : Int32))] [(t, O_ArrayList Z (.int mc) (.ref b) (.int (1 : Int32))), (w, O_String Z (.int (0 : Int32)) (.ref wv)), (b, AryR Z "java/lang/Object" [(.ref v0), .null, .null, .null, .null, .null, .null, .null, .null, .null])] []
      (fun rv L1 M1 => rv = none ∧ L1 = [(t, O_ArrayList Z (.int mc) (.ref b) (.int (2 : Int32))), (w, O_String Z (.int (0 : Int32)) (.ref wv)), (b, AryR Z "java/lang/Object" [(.ref v0), (.ref w), .null, .null, .null, .null, .null, .null, .null, .null])] ∧ M1 = []) := by
  refine Con.of_body (plainFor_of_name pn4) (fun m => ef_alAdd3_1 m) ?_
  intro p e s m below meth c T0 h0 C S0
  refine C.iloadN S0 d_jdk_38_method_24_0 1 rfl rfl ?_
  refine C.aloadN S0 d_jdk_38_method_24_1 2 rfl rfl rfl ?_
  refine C.arraylength S0 (S0.atR 2 rfl) d_jdk_38_method_24_2 3 rfl (10 : Int32) rfl ?_
  refine C.icmp_ne S0 d_jdk_38_method_24_3 11 6 (by decide) (by decide) rfl (fun hc1 => ?_) fun hc1 => absurd hc1 (by decide)
  refine C.aloadN S0 d_jdk_38_method_24_11 12 rfl rfl rfl ?_
  refine C.iloadN S0 d_jdk_38_method_24_12 13 rfl rfl ?_
  refine C.aloadN S0 d_jdk_38_method_24_13 14 rfl rfl rfl ?_
  refine C.aastore S0 2 rfl (S0.sto (a0 := a0) 2 rfl (S0.exa 1 rfl) (Or.inr (w114 hw))) rfl d_jdk_38_method_24_14 15 rfl (by decide) 1 rfl (leD rfl) fun T2 S2 => ?_
  replace S2 := S2.as (L' := [(t, O_ArrayList Z (.int mc) (.ref b) (.int (1 : Int32))), (w, O_String Z (.int (0 : Int32)) (.ref wv)), (b, AryR Z "java/lang/Object" [(.ref v0), (.ref w), .null, .null, .null, .null, .null, .null, .null, .null])]) (M' := []) (cells' := 0) (slots' := 0) rfl rfl rfl rfl
  refine C.aloadN S2 d_jdk_38_method_24_15 16 rfl rfl rfl ?_
  refine C.iloadN S2 d_jdk_38_method_24_16 17 rfl rfl ?_
  refine C.iconst S2 d_jdk_38_method_24_17 18 rfl (1 : Int32) rfl ?_
  refine C.iadd S2 d_jdk_38_method_24_18 19 rfl (2 : Int32) (by decide) ?_
  refine C.putfield S2 (host := "") (Or.inl (w81 hw)) Via.refl d_jdk_38_method_24_19 0 rfl 2 rfl (Or.inl (w82 hw)) (w39 hw) (ty := .int) (by decide) rfl rfl 22 rfl fun T3 S3 => ?_
  replace S3 := S3.as (L' := [(t, O_ArrayList Z (.int mc) (.ref b) (.int (2 : Int32))), (w, O_String Z (.int (0 : Int32)) (.ref wv)), (b, AryR Z "java/lang/Object" [(.ref v0), (.ref w), .null, .null, .null, .null, .null, .null, .null, .null])]) (M' := []) (cells' := 0) (slots' := 0) rfl rfl rfl rfl
  exact C.retV S3 d_jdk_38_method_24_22 [0, 1, 2] rfl (by decide) [] rfl fa0 ⟨rfl, rfl, rfl⟩ rfl (leD rfl) (leD rfl)
theorem ef_alAdd_1 {t : Addr} {w : Addr} (m : MethodId) : entryFrame m #[(.ref t), (.ref w)] 2 = mkF m 0 #[.val (.ref t), .val (.ref w)] [] := by first | (simp [entryFrame, mkF, argsToLocals, Value.category]; done) | rfl
set_option maxRecDepth 65536 in
set_option maxHeartbeats 40000000 in
theorem alAdd_1 {lch : Launch} {Z : State} {a0 : Array Value} {cst : Int32} {dc : Addr} (hw : Hw a0 Z) (hCS : Sta Z Z.heap "java/lang/String" "COMPACT_STRINGS" "Z" (.int cst)) (hcs : ¬ cst = 0) (hD : Sta Z Z.heap "java/util/ArrayList" "DEFAULTCAPACITY_EMPTY_ELEMENTDATA" "[Ljava/lang/Object;" (.ref dc)) (hDA : ∃ c, Z.heap[dc]? = some c ∧ Ary Z (.object "java/lang/Object") [] c) (t : Addr) (mc : Int32) (w : Addr) (wv : Addr) (b : Addr) (v0 : Addr) :
    Con lch Z (⟨"java/util/ArrayList", "add", "(Ljava/lang/Object;)Z"⟩ : MethodName) jdk_38_method_25_code 2 (Option.some Jvm.ClassFile.FieldType.boolean) ({ frames := 1, cells := 0, slots := 0, locals := 15 } : Room) #[(.ref t), (.ref w)] [(t, O_ArrayList Z (.int mc) (.ref b) (.int (1 : Int32))), (w, O_String Z (.int (0 : Int32)) (.ref wv)), (b, AryR Z "java/lang/Object" [(.ref v0), .null, .null, .null, .null, .null, .null, .null, .null, .null])] []
      (fun rv L1 M1 => rv = some (.int (1 : Int32)) ∧ L1 = [(t, O_ArrayList Z (.int (mc + (1 : Int32))) (.ref b) (.int (2 : Int32))), (w, O_String Z (.int (0 : Int32)) (.ref wv)), (b, AryR Z "java/lang/Object" [(.ref v0), (.ref w), .null, .null, .null, .null, .null, .null, .null, .null])] ∧ M1 = []) := by
  refine Con.of_body (plainFor_of_name pn4) (fun m => ef_alAdd_1 m) ?_
  intro p e s m below meth c T0 h0 C S0
  refine C.aloadN S0 d_jdk_38_method_25_0 1 rfl rfl rfl ?_
  refine C.dup S0 d_jdk_38_method_25_1 2 rfl rfl ?_
  refine C.getfield S0 (host := "") (Or.inl (w91 hw)) (Via.of (w92 hw)) d_jdk_38_method_25_2 (S0.fld 0 rfl 0 rfl) 5 rfl fun T1 S1 => ?_
  refine C.iconst S1 d_jdk_38_method_25_5 6 rfl (1 : Int32) rfl ?_
  refine C.iadd S1 d_jdk_38_method_25_6 7 rfl (mc + (1 : Int32)) rfl ?_
  refine C.putfield S1 (host := "") (Or.inl (w91 hw)) (Via.of (w92 hw)) d_jdk_38_method_25_7 0 rfl 0 rfl (Or.inl (w58 hw)) (w39 hw) (ty := .int) (by decide) rfl rfl 10 rfl fun T2 S2 => ?_
  replace S2 := S2.as (L' := [(t, O_ArrayList Z (.int (mc + (1 : Int32))) (.ref b) (.int (1 : Int32))), (w, O_String Z (.int (0 : Int32)) (.ref wv)), (b, AryR Z "java/lang/Object" [(.ref v0), .null, .null, .null, .null, .null, .null, .null, .null, .null])]) (M' := []) (cells' := 0) (slots' := 0) rfl rfl rfl rfl
  refine C.aloadN S2 d_jdk_38_method_25_10 11 rfl rfl rfl ?_
  refine C.aloadN S2 d_jdk_38_method_25_11 12 rfl rfl rfl ?_
  refine C.aloadN S2 d_jdk_38_method_25_12 13 rfl rfl rfl ?_
  refine C.getfield S2 (host := "") (Or.inl (w60 hw)) Via.refl d_jdk_38_method_25_13 (S2.fld 0 rfl 1 rfl) 16 rfl fun T3 S3 => ?_
  refine C.aloadN S3 d_jdk_38_method_25_16 17 rfl rfl rfl ?_
  refine C.getfield S3 (host := "") (Or.inl (w81 hw)) Via.refl d_jdk_38_method_25_17 (S3.fld 0 rfl 2 rfl) 20 rfl fun T4 S4 => ?_
  refine C.callPrivate S4 (S4.exa 0 rfl) (w93 hw) (w94 hw) (w96 hw) (w95 hw) (w40 hw) (w97 hw) (by decide) (alAdd3_1 hw hCS hcs hD hDA t (mc + (1 : Int32)) w wv b v0) d_jdk_38_method_25_20 23 rfl rfl pd8 [(.ref w), (.ref b), (.int (1 : Int32))] [] rfl rfl rfl [0, 1, 2] rfl (by decide) rfl [] rfl (leD rfl) (leD rfl) (leD rfl) (leD rfl) ?_
  rintro T5 _ _ _ ⟨rfl, rfl, rfl⟩ hro5 S5
  replace S5 := S5.as (L' := [(t, O_ArrayList Z (.int (mc + (1 : Int32))) (.ref b) (.int (2 : Int32))), (w, O_String Z (.int (0 : Int32)) (.ref wv)), (b, AryR Z "java/lang/Object" [(.ref v0), (.ref w), .null, .null, .null, .null, .null, .null, .null, .null])]) (M' := []) (cells' := 0) (slots' := 0) rfl rfl rfl rfl
  show Go p e below _ (T5.setTop (mkF m 23 #[.val (.ref t), .val (.ref w)] []))
  refine C.iconst S5 d_jdk_38_method_25_23 24 rfl (1 : Int32) rfl ?_
  exact C.retN S5 (by simp) d_jdk_38_method_25_24 (1 : Int32) (by decide) [0, 1, 2] rfl (by decide) [] rfl fa0 ⟨rfl, rfl, rfl⟩ rfl (leD rfl) (leD rfl)
theorem ef_alAdd3_2 {t : Addr} {w : Addr} {b : Addr} (m : MethodId) : entryFrame m #[(.ref t), (.ref w), (.ref b), (.int (2 : Int32))] 4 = mkF m 0 #[.val (.ref t), .val (.ref w), .val (.ref b), .val (.int (2 : Int32))] [] := by first | (simp [entryFrame, mkF, argsToLocals, Value.category]; done) | rfl
set_option maxRecDepth 65536 in
set_option maxHeartbeats 40000000 in
theorem alAdd3_2 {lch : Launch} {Z : State} {a0 : Array Value} {cst : Int32} {dc : Addr} (hw : Hw a0 Z) (hCS : Sta Z Z.heap "java/lang/String" "COMPACT_STRINGS" "Z" (.int cst)) (hcs : ¬ cst = 0) (hD : Sta Z Z.heap "java/util/ArrayList" "DEFAULTCAPACITY_EMPTY_ELEMENTDATA" "[Ljava/lang/Object;" (.ref dc)) (hDA : ∃ c, Z.heap[dc]? = some c ∧ Ary Z (.object "java/lang/Object") [] c) (t : Addr) (mc : Int32) (w : Addr) (wv : Addr) (b : Addr) (v0 : Addr) (v1 : Addr) :
    Con lch Z (⟨"java/util/ArrayList", "add", "(Ljava/lang/Object;[Ljava/lang/Object;I)V"⟩ : MethodName) jdk_38_method_24_code 4 (Option.none : Option Jvm.ClassFile.FieldType) ({ frames := 0, cells := 0, slots := 0, locals := 0 } : Room) #[(.ref t), (.ref w), (.ref b), (.int (2 : Int32))] [(t, O_ArrayList Z (.int mc) (.ref b) (.int (2 : Int32))), (w, O_String Z (.int (0 : Int32)) (.ref wv)), (b, AryR Z "java/lang/Object" [(.ref v0), (.ref v1), .null, .null, .null, .null, .null, .null, .null, .null])] []
      (fun rv L1 M1 => rv = none ∧ L1 = [(t, O_ArrayList Z (.int mc) (.ref b) (.int (3 : Int32))), (w, O_String Z (.int (0 : Int32)) (.ref wv)), (b, AryR Z "java/lang/Object" [(.ref v0), (.ref v1), (.ref w), .null, .null, .null, .null, .null, .null, .null])] ∧ M1 = []) := by
  refine Con.of_body (plainFor_of_name pn4) (fun m => ef_alAdd3_2 m) ?_
  intro p e s m below meth c T0 h0 C S0
  refine C.iloadN S0 d_jdk_38_method_24_0 1 rfl rfl ?_
  refine C.aloadN S0 d_jdk_38_method_24_1 2 rfl rfl rfl ?_
  refine C.arraylength S0 (S0.atR 2 rfl) d_jdk_38_method_24_2 3 rfl (10 : Int32) rfl ?_
  refine C.icmp_ne S0 d_jdk_38_method_24_3 11 6 (by decide) (by decide) rfl (fun hc1 => ?_) fun hc1 => absurd hc1 (by decide)
  refine C.aloadN S0 d_jdk_38_method_24_11 12 rfl rfl rfl ?_
  refine C.iloadN S0 d_jdk_38_method_24_12 13 rfl rfl ?_
  refine C.aloadN S0 d_jdk_38_method_24_13 14 rfl rfl rfl ?_
  refine C.aastore S0 2 rfl (S0.sto (a0 := a0) 2 rfl (S0.exa 1 rfl) (Or.inr (w114 hw))) rfl d_jdk_38_method_24_14 15 rfl (by decide) 2 rfl (leD rfl) fun T2 S2 => ?_
  replace S2 := S2.as (L' := [(t, O_ArrayList Z (.int mc) (.ref b) (.int (2 : Int32))), (w, O_String Z (.int (0 : Int32)) (.ref wv)), (b, AryR Z "java/lang/Object" [(.ref v0), (.ref v1), (.ref w), .null, .null, .null, .null, .null, .null, .null])]) (M' := []) (cells' := 0) (slots' := 0) rfl rfl rfl rfl
  refine C.aloadN S2 d_jdk_38_method_24_15 16 rfl rfl rfl ?_
  refine C.iloadN S2 d_jdk_38_method_24_16 17 rfl rfl ?_
  refine C.iconst S2 d_jdk_38_method_24_17 18 rfl (1 : Int32) rfl ?_
  refine C.iadd S2 d_jdk_38_method_24_18 19 rfl (3 : Int32) (by decide) ?_
  refine C.putfield S2 (host := "") (Or.inl (w81 hw)) Via.refl d_jdk_38_method_24_19 0 rfl 2 rfl (Or.inl (w82 hw)) (w39 hw) (ty := .int) (by decide) rfl rfl 22 rfl fun T3 S3 => ?_
  replace S3 := S3.as (L' := [(t, O_ArrayList Z (.int mc) (.ref b) (.int (3 : Int32))), (w, O_String Z (.int (0 : Int32)) (.ref wv)), (b, AryR Z "java/lang/Object" [(.ref v0), (.ref v1), (.ref w), .null, .null, .null, .null, .null, .null, .null])]) (M' := []) (cells' := 0) (slots' := 0) rfl rfl rfl rfl
  exact C.retV S3 d_jdk_38_method_24_22 [0, 1, 2] rfl (by decide) [] rfl fa0 ⟨rfl, rfl, rfl⟩ rfl (leD rfl) (leD rfl)
theorem ef_alAdd_2 {t : Addr} {w : Addr} (m : MethodId) : entryFrame m #[(.ref t), (.ref w)] 2 = mkF m 0 #[.val (.ref t), .val (.ref w)] [] := by first | (simp [entryFrame, mkF, argsToLocals, Value.category]; done) | rfl
set_option maxRecDepth 65536 in
set_option maxHeartbeats 40000000 in
theorem alAdd_2 {lch : Launch} {Z : State} {a0 : Array Value} {cst : Int32} {dc : Addr} (hw : Hw a0 Z) (hCS : Sta Z Z.heap "java/lang/String" "COMPACT_STRINGS" "Z" (.int cst)) (hcs : ¬ cst = 0) (hD : Sta Z Z.heap "java/util/ArrayList" "DEFAULTCAPACITY_EMPTY_ELEMENTDATA" "[Ljava/lang/Object;" (.ref dc)) (hDA : ∃ c, Z.heap[dc]? = some c ∧ Ary Z (.object "java/lang/Object") [] c) (t : Addr) (mc : Int32) (w : Addr) (wv : Addr) (b : Addr) (v0 : Addr) (v1 : Addr) :
    Con lch Z (⟨"java/util/ArrayList", "add", "(Ljava/lang/Object;)Z"⟩ : MethodName) jdk_38_method_25_code 2 (Option.some Jvm.ClassFile.FieldType.boolean) ({ frames := 1, cells := 0, slots := 0, locals := 15 } : Room) #[(.ref t), (.ref w)] [(t, O_ArrayList Z (.int mc) (.ref b) (.int (2 : Int32))), (w, O_String Z (.int (0 : Int32)) (.ref wv)), (b, AryR Z "java/lang/Object" [(.ref v0), (.ref v1), .null, .null, .null, .null, .null, .null, .null, .null])] []
      (fun rv L1 M1 => rv = some (.int (1 : Int32)) ∧ L1 = [(t, O_ArrayList Z (.int (mc + (1 : Int32))) (.ref b) (.int (3 : Int32))), (w, O_String Z (.int (0 : Int32)) (.ref wv)), (b, AryR Z "java/lang/Object" [(.ref v0), (.ref v1), (.ref w), .null, .null, .null, .null, .null, .null, .null])] ∧ M1 = []) := by
  refine Con.of_body (plainFor_of_name pn4) (fun m => ef_alAdd_2 m) ?_
  intro p e s m below meth c T0 h0 C S0
  refine C.aloadN S0 d_jdk_38_method_25_0 1 rfl rfl rfl ?_
  refine C.dup S0 d_jdk_38_method_25_1 2 rfl rfl ?_
  refine C.getfield S0 (host := "") (Or.inl (w91 hw)) (Via.of (w92 hw)) d_jdk_38_method_25_2 (S0.fld 0 rfl 0 rfl) 5 rfl fun T1 S1 => ?_
  refine C.iconst S1 d_jdk_38_method_25_5 6 rfl (1 : Int32) rfl ?_
  refine C.iadd S1 d_jdk_38_method_25_6 7 rfl (mc + (1 : Int32)) rfl ?_
  refine C.putfield S1 (host := "") (Or.inl (w91 hw)) (Via.of (w92 hw)) d_jdk_38_method_25_7 0 rfl 0 rfl (Or.inl (w58 hw)) (w39 hw) (ty := .int) (by decide) rfl rfl 10 rfl fun T2 S2 => ?_
  replace S2 := S2.as (L' := [(t, O_ArrayList Z (.int (mc + (1 : Int32))) (.ref b) (.int (2 : Int32))), (w, O_String Z (.int (0 : Int32)) (.ref wv)), (b, AryR Z "java/lang/Object" [(.ref v0), (.ref v1), .null, .null, .null, .null, .null, .null, .null, .null])]) (M' := []) (cells' := 0) (slots' := 0) rfl rfl rfl rfl
  refine C.aloadN S2 d_jdk_38_method_25_10 11 rfl rfl rfl ?_
  refine C.aloadN S2 d_jdk_38_method_25_11 12 rfl rfl rfl ?_
  refine C.aloadN S2 d_jdk_38_method_25_12 13 rfl rfl rfl ?_
  refine C.getfield S2 (host := "") (Or.inl (w60 hw)) Via.refl d_jdk_38_method_25_13 (S2.fld 0 rfl 1 rfl) 16 rfl fun T3 S3 => ?_
  refine C.aloadN S3 d_jdk_38_method_25_16 17 rfl rfl rfl ?_
  refine C.getfield S3 (host := "") (Or.inl (w81 hw)) Via.refl d_jdk_38_method_25_17 (S3.fld 0 rfl 2 rfl) 20 rfl fun T4 S4 => ?_
  refine C.callPrivate S4 (S4.exa 0 rfl) (w93 hw) (w94 hw) (w96 hw) (w95 hw) (w40 hw) (w97 hw) (by decide) (alAdd3_2 hw hCS hcs hD hDA t (mc + (1 : Int32)) w wv b v0 v1) d_jdk_38_method_25_20 23 rfl rfl pd8 [(.ref w), (.ref b), (.int (2 : Int32))] [] rfl rfl rfl [0, 1, 2] rfl (by decide) rfl [] rfl (leD rfl) (leD rfl) (leD rfl) (leD rfl) ?_
  rintro T5 _ _ _ ⟨rfl, rfl, rfl⟩ hro5 S5
  replace S5 := S5.as (L' := [(t, O_ArrayList Z (.int (mc + (1 : Int32))) (.ref b) (.int (3 : Int32))), (w, O_String Z (.int (0 : Int32)) (.ref wv)), (b, AryR Z "java/lang/Object" [(.ref v0), (.ref v1), (.ref w), .null, .null, .null, .null, .null, .null, .null])]) (M' := []) (cells' := 0) (slots' := 0) rfl rfl rfl rfl
  show Go p e below _ (T5.setTop (mkF m 23 #[.val (.ref t), .val (.ref w)] []))
  refine C.iconst S5 d_jdk_38_method_25_23 24 rfl (1 : Int32) rfl ?_
  exact C.retN S5 (by simp) d_jdk_38_method_25_24 (1 : Int32) (by decide) [0, 1, 2] rfl (by decide) [] rfl fa0 ⟨rfl, rfl, rfl⟩ rfl (leD rfl) (leD rfl)
theorem d_jdk_41_method_11_0 : decode jdk_41_method_11_code 0 = .ok (.iload_n 0, 1) := by decide +kernel
theorem d_jdk_41_method_11_1 : decode jdk_41_method_11_code 1 = .ok (.ifCond .lt 8, 3) := by decide +kernel
theorem d_jdk_41_method_11_4 : decode jdk_41_method_11_code 4 = .ok (.iload_n 0, 1) := by decide +kernel
theorem d_jdk_41_method_11_5 : decode jdk_41_method_11_code 5 = .ok (.iload_n 1, 1) := by decide +kernel
theorem d_jdk_41_method_11_6 : decode jdk_41_method_11_code 6 = .ok (.if_icmp .lt 10, 3) := by decide +kernel
theorem d_jdk_41_method_11_16 : decode jdk_41_method_11_code 16 = .ok (.iload_n 0, 1) := by decide +kernel
theorem d_jdk_41_method_11_17 : decode jdk_41_method_11_code 17 = .ok (.ireturn, 1) := by decide +kernel
theorem pn5 : plainName "jdk/internal/util/Preconditions" = true := by first | (simp [plainName, overriddenIn]; done) | decide +kernel
theorem ef_chkIx {i : Int32} {n : Int32} (m : MethodId) : entryFrame m #[(.int i), (.int n), .null] 3 = mkF m 0 #[.val (.int i), .val (.int n), .val .null] [] := by first | (simp [entryFrame, mkF, argsToLocals, Value.category]; done) | rfl
set_option maxRecDepth 65536 in
set_option maxHeartbeats 40000000 in
theorem chkIx {lch : Launch} {Z : State} {a0 : Array Value} {cst : Int32} {dc : Addr} (hw : Hw a0 Z) (hCS : Sta Z Z.heap "java/lang/String" "COMPACT_STRINGS" "Z" (.int cst)) (hcs : ¬ cst = 0) (hD : Sta Z Z.heap "java/util/ArrayList" "DEFAULTCAPACITY_EMPTY_ELEMENTDATA" "[Ljava/lang/Object;" (.ref dc)) (hDA : ∃ c, Z.heap[dc]? = some c ∧ Ary Z (.object "java/lang/Object") [] c) (i : Int32) (n : Int32) (hi0 : ¬ i < 0) (hin : i < n) :
    Con lch Z (⟨"jdk/internal/util/Preconditions", "checkIndex", "(IILjava/util/function/BiFunction;)I"⟩ : MethodName) jdk_41_method_11_code 3 (Option.some Jvm.ClassFile.FieldType.int) ({ frames := 0, cells := 0, slots := 0, locals := 0 } : Room) #[(.int i), (.int n), .null] [] []
      (fun rv L1 M1 => rv = some (.int i) ∧ L1 = [] ∧ M1 = []) := by
  refine Con.of_body (plainFor_of_name pn5) (fun m => ef_chkIx m) ?_
  intro p e s m below meth c T0 h0 C S0
  refine C.iloadN S0 d_jdk_41_method_11_0 1 rfl rfl ?_
  refine C.if_lt S0 d_jdk_41_method_11_1 9 4 (by decide) (by decide) rfl (fun hc1 => absurd hc1 hi0) fun hc1 => ?_
  refine C.iloadN S0 d_jdk_41_method_11_4 5 rfl rfl ?_
  refine C.iloadN S0 d_jdk_41_method_11_5 6 rfl rfl ?_
  refine C.icmp_lt S0 d_jdk_41_method_11_6 16 9 (by decide) (by decide) rfl (fun hc2 => ?_) fun hc2 => absurd hin hc2
  refine C.iloadN S0 d_jdk_41_method_11_16 17 rfl rfl ?_
  exact C.retI S0 d_jdk_41_method_11_17 [] rfl (by decide) [] rfl fa0 ⟨rfl, rfl, rfl⟩ rfl (leD rfl) (leD rfl)
theorem d_jdk_31_method_17_0 : decode jdk_31_method_17_code 0 = .ok (.iload_n 0, 1) := by decide +kernel
theorem d_jdk_31_method_17_1 : decode jdk_31_method_17_code 1 = .ok (.iload_n 1, 1) := by decide +kernel
theorem d_jdk_31_method_17_2 : decode jdk_31_method_17_code 2 = .ok (.aconst_null, 1) := by decide +kernel
theorem d_jdk_31_method_17_3 : decode jdk_31_method_17_code 3 = .ok (.invokestatic 105, 3) := by decide +kernel
theorem pd9 : parseMethodDescriptor "(IILjava/util/function/BiFunction;)I" = some ⟨[.int, .int, (.object "java/util/function/BiFunction")], some .int⟩ := by decide +kernel
theorem d_jdk_31_method_17_6 : decode jdk_31_method_17_code 6 = .ok (.ireturn, 1) := by decide +kernel
theorem pn6 : plainName "java/util/Objects" = true := by first | (simp [plainName, overriddenIn]; done) | decide +kernel
theorem ef_chkI {i : Int32} {n : Int32} (m : MethodId) : entryFrame m #[(.int i), (.int n)] 2 = mkF m 0 #[.val (.int i), .val (.int n)] [] := by first | (simp [entryFrame, mkF, argsToLocals, Value.category]; done) | rfl
set_option maxRecDepth 65536 in
set_option maxHeartbeats 40000000 in
theorem chkI {lch : Launch} {Z : State} {a0 : Array Value} {cst : Int32} {dc : Addr} (hw : Hw a0 Z) (hCS : Sta Z Z.heap "java/lang/String" "COMPACT_STRINGS" "Z" (.int cst)) (hcs : ¬ cst = 0) (hD : Sta Z Z.heap "java/util/ArrayList" "DEFAULTCAPACITY_EMPTY_ELEMENTDATA" "[Ljava/lang/Object;" (.ref dc)) (hDA : ∃ c, Z.heap[dc]? = some c ∧ Ary Z (.object "java/lang/Object") [] c) (i : Int32) (n : Int32) (hi0 : ¬ i < 0) (hin : i < n) :
    Con lch Z (⟨"java/util/Objects", "checkIndex", "(II)I"⟩ : MethodName) jdk_31_method_17_code 2 (Option.some Jvm.ClassFile.FieldType.int) ({ frames := 1, cells := 0, slots := 0, locals := 14 } : Room) #[(.int i), (.int n)] [] []
      (fun rv L1 M1 => rv = some (.int i) ∧ L1 = [] ∧ M1 = []) := by
  refine Con.of_body (plainFor_of_name pn6) (fun m => ef_chkI m) ?_
  intro p e s m below meth c T0 h0 C S0
  refine C.iloadN S0 d_jdk_31_method_17_0 1 rfl rfl ?_
  refine C.iloadN S0 d_jdk_31_method_17_1 2 rfl rfl ?_
  refine C.aconstNull S0 d_jdk_31_method_17_2 3 rfl ?_
  refine C.callStatic S0 (w133 hw) (w134 hw) (w135 hw) (w136 hw) (by decide) (chkIx hw hCS hcs hD hDA i n hi0 hin) d_jdk_31_method_17_3 6 rfl rfl pd9 [(.int i), (.int n), .null] [] rfl rfl rfl [] rfl (by decide) rfl [] rfl (leD rfl) (leD rfl) (leD rfl) (leD rfl) ?_
  rintro T1 _ _ _ ⟨rfl, rfl, rfl⟩ hro1 S1
  replace S1 := S1.as (L' := []) (M' := []) (cells' := 0) (slots' := 0) rfl rfl rfl rfl
  show Go p e below _ (T1.setTop (mkF m 6 #[.val (.int i), .val (.int n)] [(.int i)]))
  exact C.retI S1 d_jdk_31_method_17_6 [] rfl (by decide) [] rfl fa0 ⟨rfl, rfl, rfl⟩ rfl (leD rfl) (leD rfl)
theorem d_jdk_38_method_18_0 : decode jdk_38_method_18_code 0 = .ok (.aload_n 0, 1) := by decide +kernel
theorem d_jdk_38_method_18_1 : decode jdk_38_method_18_code 1 = .ok (.getfield 9, 3) := by decide +kernel
theorem d_jdk_38_method_18_4 : decode jdk_38_method_18_code 4 = .ok (.iload_n 1, 1) := by decide +kernel
theorem d_jdk_38_method_18_5 : decode jdk_38_method_18_code 5 = .ok (.aaload, 1) := by decide +kernel
theorem d_jdk_38_method_18_6 : decode jdk_38_method_18_code 6 = .ok (.areturn, 1) := by decide +kernel
theorem ef_alElem {t : Addr} {i : Int32} (m : MethodId) : entryFrame m #[(.ref t), (.int i)] 2 = mkF m 0 #[.val (.ref t), .val (.int i)] [] := by first | (simp [entryFrame, mkF, argsToLocals, Value.category]; done) | rfl
set_option maxRecDepth 65536 in
set_option maxHeartbeats 40000000 in
theorem alElem {lch : Launch} {Z : State} {a0 : Array Value} {cst : Int32} {dc : Addr} (hw : Hw a0 Z) (hCS : Sta Z Z.heap "java/lang/String" "COMPACT_STRINGS" "Z" (.int cst)) (hcs : ¬ cst = 0) (hD : Sta Z Z.heap "java/util/ArrayList" "DEFAULTCAPACITY_EMPTY_ELEMENTDATA" "[Ljava/lang/Object;" (.ref dc)) (hDA : ∃ c, Z.heap[dc]? = some c ∧ Ary Z (.object "java/lang/Object") [] c) (t : Addr) (mc : Int32) (b : Addr) (n : Int32) (vs : List Value) (i : Int32) (v : Addr) (hi0 : ¬ i < 0) (hv : nth vs i.toNatClampNeg = some (.ref v)) :
    Con lch Z (⟨"java/util/ArrayList", "elementData", "(I)Ljava/lang/Object;"⟩ : MethodName) jdk_38_method_18_code 2 (Option.some (Jvm.ClassFile.FieldType.object "java/lang/Object")) ({ frames := 0, cells := 0, slots := 0, locals := 0 } : Room) #[(.ref t), (.int i)] [(t, O_ArrayList Z (.int mc) (.ref b) (.int n)), (b, AryR Z "java/lang/Object" (vs))] []
      (fun rv L1 M1 => rv = some (.ref v) ∧ L1 = [(t, O_ArrayList Z (.int mc) (.ref b) (.int n)), (b, AryR Z "java/lang/Object" (vs))] ∧ M1 = []) := by
  refine Con.of_body (plainFor_of_name pn4) (fun m => ef_alElem m) ?_
  intro p e s m below meth c T0 h0 C S0
  refine C.aloadN S0 d_jdk_38_method_18_0 1 rfl rfl rfl ?_
  refine C.getfield S0 (host := "") (Or.inl (w60 hw)) Via.refl d_jdk_38_method_18_1 (S0.fld 0 rfl 1 rfl) 4 rfl fun T1 S1 => ?_
  refine C.iloadN S1 d_jdk_38_method_18_4 5 rfl rfl ?_
  refine C.aaload S1 (S1.atR 1 rfl) rfl d_jdk_38_method_18_5 6 rfl hi0 i.toNatClampNeg rfl hv ?_
  exact C.retA S1 rfl rfl d_jdk_38_method_18_6 [0, 1] rfl (by decide) [] rfl fa0 ⟨rfl, rfl, rfl⟩ rfl (leD rfl) (leD rfl)
theorem d_jdk_38_method_20_0 : decode jdk_38_method_20_code 0 = .ok (.iload_n 1, 1) := by decide +kernel
theorem d_jdk_38_method_20_1 : decode jdk_38_method_20_code 1 = .ok (.aload_n 0, 1) := by decide +kernel
theorem d_jdk_38_method_20_2 : decode jdk_38_method_20_code 2 = .ok (.getfield 48, 3) := by decide +kernel
theorem d_jdk_38_method_20_5 : decode jdk_38_method_20_code 5 = .ok (.invokestatic 118, 3) := by decide +kernel
theorem d_jdk_38_method_20_8 : decode jdk_38_method_20_code 8 = .ok (.pop, 1) := by decide +kernel
theorem d_jdk_38_method_20_9 : decode jdk_38_method_20_code 9 = .ok (.aload_n 0, 1) := by decide +kernel
theorem d_jdk_38_method_20_10 : decode jdk_38_method_20_code 10 = .ok (.iload_n 1, 1) := by decide +kernel
theorem d_jdk_38_method_20_11 : decode jdk_38_method_20_code 11 = .ok (.invokevirtual 123, 3) := by decide +kernel
theorem pd10 : parseMethodDescriptor "(I)Ljava/lang/Object;" = some ⟨[.int], some (.object "java/lang/Object")⟩ := by decide +kernel
theorem d_jdk_38_method_20_14 : decode jdk_38_method_20_code 14 = .ok (.areturn, 1) := by decide +kernel
theorem ef_alGet {t : Addr} {i : Int32} (m : MethodId) : entryFrame m #[(.ref t), (.int i)] 2 = mkF m 0 #[.val (.ref t), .val (.int i)] [] := by first | (simp [entryFrame, mkF, argsToLocals, Value.category]; done) | rfl
set_option maxRecDepth 65536 in
set_option maxHeartbeats 40000000 in
theorem alGet {lch : Launch} {Z : State} {a0 : Array Value} {cst : Int32} {dc : Addr} (hw : Hw a0 Z) (hCS : Sta Z Z.heap "java/lang/String" "COMPACT_STRINGS" "Z" (.int cst)) (hcs : ¬ cst = 0) (hD : Sta Z Z.heap "java/util/ArrayList" "DEFAULTCAPACITY_EMPTY_ELEMENTDATA" "[Ljava/lang/Object;" (.ref dc)) (hDA : ∃ c, Z.heap[dc]? = some c ∧ Ary Z (.object "java/lang/Object") [] c) (t : Addr) (mc : Int32) (b : Addr) (n : Int32) (vs : List Value) (i : Int32) (v : Addr) (hi0 : ¬ i < 0) (hv : nth vs i.toNatClampNeg = some (.ref v)) (hin : i < n) :
    Con lch Z (⟨"java/util/ArrayList", "get", "(I)Ljava/lang/Object;"⟩ : MethodName) jdk_38_method_20_code 2 (Option.some (Jvm.ClassFile.FieldType.object "java/lang/Object")) ({ frames := 2, cells := 0, slots := 0, locals := 27 } : Room) #[(.ref t), (.int i)] [(t, O_ArrayList Z (.int mc) (.ref b) (.int n)), (b, AryR Z "java/lang/Object" (vs))] []
      (fun rv L1 M1 => rv = some (.ref v) ∧ L1 = [(t, O_ArrayList Z (.int mc) (.ref b) (.int n)), (b, AryR Z "java/lang/Object" (vs))] ∧ M1 = []) := by
  refine Con.of_body (plainFor_of_name pn4) (fun m => ef_alGet m) ?_
  intro p e s m below meth c T0 h0 C S0
  refine C.iloadN S0 d_jdk_38_method_20_0 1 rfl rfl ?_
  refine C.aloadN S0 d_jdk_38_method_20_1 2 rfl rfl rfl ?_
  refine C.getfield S0 (host := "") (Or.inl (w81 hw)) Via.refl d_jdk_38_method_20_2 (S0.fld 0 rfl 2 rfl) 5 rfl fun T1 S1 => ?_
  refine C.callStatic S1 (w129 hw) (w130 hw) (w131 hw) (w132 hw) (by decide) (chkI hw hCS hcs hD hDA i n hi0 hin) d_jdk_38_method_20_5 8 rfl rfl pd5 [(.int i), (.int n)] [] rfl rfl rfl [] rfl (by decide) rfl [] rfl (leD rfl) (leD rfl) (leD rfl) (leD rfl) ?_
  rintro T2 _ _ _ ⟨rfl, rfl, rfl⟩ hro2 S2
  replace S2 := S2.as (L' := [(t, O_ArrayList Z (.int mc) (.ref b) (.int n)), (b, AryR Z "java/lang/Object" (vs))]) (M' := []) (cells' := 0) (slots' := 0) rfl rfl rfl rfl
  show Go p e below _ (T2.setTop (mkF m 8 #[.val (.ref t), .val (.int i)] [(.int i)]))
  refine C.pop S2 d_jdk_38_method_20_8 9 rfl rfl ?_
  refine C.aloadN S2 d_jdk_38_method_20_9 10 rfl rfl rfl ?_
  refine C.iloadN S2 d_jdk_38_method_20_10 11 rfl rfl ?_
  refine C.callVirtual S2 (S2.exa 0 rfl) (w137 hw) (w138 hw) (Or.inl (w140 hw)) (w140 hw) (w139 hw) (w40 hw) (w141 hw) (by decide) (alElem hw hCS hcs hD hDA t mc b n (vs) i v hi0 hv) d_jdk_38_method_20_11 14 rfl rfl pd10 [(.int i)] [] rfl rfl rfl [0, 1] rfl (by decide) rfl [] rfl (leD rfl) (leD rfl) (leD rfl) (leD rfl) ?_
  rintro T3 _ _ _ ⟨rfl, rfl, rfl⟩ hro3 S3
  replace S3 := S3.as (L' := [(t, O_ArrayList Z (.int mc) (.ref b) (.int n)), (b, AryR Z "java/lang/Object" ((vs)))]) (M' := []) (cells' := 0) (slots' := 0) rfl rfl rfl rfl
  show Go p e below _ (T3.setTop (mkF m 14 #[.val (.ref t), .val (.int i)] [(.ref v)]))
  exact C.retA S3 rfl rfl d_jdk_38_method_20_14 [0, 1] rfl (by decide) [] rfl fa0 ⟨rfl, rfl, rfl⟩ rfl (leD rfl) (leD rfl)
abbrev O_RowsRead (Z : State) (v0 : Value) (v1 : Value) : Cell → Prop := Obj Z "com/example/exdate/exdate/cli/RowsRead" [("com/example/exdate/exdate/cli/RowsRead", "made", "Ljava/util/List;", v0), ("com/example/exdate/exdate/cli/RowsRead", "lines", "[J", v1)]
theorem d_prog_89_method_1_0 : decode prog_89_method_1_code 0 = .ok (.aload_n 0, 1) := by decide +kernel
theorem d_prog_89_method_1_1 : decode prog_89_method_1_code 1 = .ok (.invokespecial 1, 3) := by decide +kernel
theorem d_prog_89_method_1_4 : decode prog_89_method_1_code 4 = .ok (.aload_n 0, 1) := by decide +kernel
theorem d_prog_89_method_1_5 : decode prog_89_method_1_code 5 = .ok (.new 7, 3) := by decide +kernel
theorem layO_ArrayList {a0 : Array Value} {Z : State} (hw : Hw a0 Z) : LaidAll Z a0 "java/util/ArrayList" [("java/util/AbstractList", "modCount", "I", .int), ("java/util/ArrayList", "elementData", "[Ljava/lang/Object;", (.array (.object "java/lang/Object"))), ("java/util/ArrayList", "size", "I", .int)] := ⟨⟨Or.inl (w58 hw), by decide⟩, ⟨⟨Or.inl (w61 hw), by decide⟩, ⟨⟨Or.inl (w82 hw), by decide⟩, trivial⟩⟩⟩
theorem d_prog_89_method_1_8 : decode prog_89_method_1_code 8 = .ok (.dup, 1) := by decide +kernel
theorem d_prog_89_method_1_9 : decode prog_89_method_1_code 9 = .ok (.invokespecial 9, 3) := by decide +kernel
theorem d_prog_89_method_1_12 : decode prog_89_method_1_code 12 = .ok (.putfield 10, 3) := by decide +kernel
theorem d_prog_89_method_1_15 : decode prog_89_method_1_code 15 = .ok (.aload_n 0, 1) := by decide +kernel
theorem d_prog_89_method_1_16 : decode prog_89_method_1_code 16 = .ok (.bipush 16, 2) := by decide +kernel
theorem d_prog_89_method_1_18 : decode prog_89_method_1_code 18 = .ok (.newarray .long, 2) := by decide +kernel
theorem d_prog_89_method_1_20 : decode prog_89_method_1_code 20 = .ok (.putfield 16, 3) := by decide +kernel
theorem d_prog_89_method_1_23 : decode prog_89_method_1_code 23 = .ok (.return_, 1) := by decide +kernel
theorem pn7 : plainName "com/example/exdate/exdate/cli/RowsRead" = true := by first | (simp [plainName, overriddenIn]; done) | decide +kernel
theorem ef_rrInit {r : Addr} (m : MethodId) : entryFrame m #[(.ref r)] 1 = mkF m 0 #[.val (.ref r)] [] := by first | (simp [entryFrame, mkF, argsToLocals, Value.category]; done) | rfl
set_option maxRecDepth 65536 in
set_option maxHeartbeats 40000000 in
theorem rrInit {lch : Launch} {Z : State} {a0 : Array Value} {cst : Int32} {dc : Addr} (hw : Hw a0 Z) (hCS : Sta Z Z.heap "java/lang/String" "COMPACT_STRINGS" "Z" (.int cst)) (hcs : ¬ cst = 0) (hD : Sta Z Z.heap "java/util/ArrayList" "DEFAULTCAPACITY_EMPTY_ELEMENTDATA" "[Ljava/lang/Object;" (.ref dc)) (hDA : ∃ c, Z.heap[dc]? = some c ∧ Ary Z (.object "java/lang/Object") [] c) (r : Addr) :
    Con lch Z (⟨"com/example/exdate/exdate/cli/RowsRead", "<init>", "()V"⟩ : MethodName) prog_89_method_1_code 1 (Option.none : Option Jvm.ClassFile.FieldType) ({ frames := 4, cells := 2, slots := 19, locals := 50 } : Room) #[(.ref r)] [(r, O_RowsRead Z .null .null)] []
      (fun rv L1 M1 => ∃ (l : Addr), ∃ (ln : Addr), rv = none ∧ L1 = [(r, O_RowsRead Z (.ref l) (.ref ln)), (l, O_ArrayList Z (.int (0 : Int32)) (.ref dc) (.int (0 : Int32))), (ln, Ary Z .long [(.long (0 : Int64)), (.long (0 : Int64)), (.long (0 : Int64)), (.long (0 : Int64)), (.long (0 : Int64)), (.long (0 : Int64)), (.long (0 : Int64)), (.long (0 : Int64)), (.long (0 : Int64)), (.long (0 : Int64)), (.long (0 : Int64)), (.long (0 : Int64)), (.long (0 : Int64)), (.long (0 : Int64)), (.long (0 : Int64)), (.long (0 : Int64))])] ∧ M1 = []) := by
  refine Con.of_body (plainFor_of_name pn7) (fun m => ef_rrInit m) ?_
  intro p e s m below meth c T0 h0 C S0
  refine C.aloadN S0 d_prog_89_method_1_0 1 rfl rfl rfl ?_
  refine C.objInit S0 (w37 hw) (w13 hw) (w14 hw) d_prog_89_method_1_1 4 rfl rfl (leD rfl) (leD rfl) fun T1 S1 => ?_
  refine C.aloadN S1 d_prog_89_method_1_4 5 rfl rfl rfl ?_
  refine C.new S1 (w38 hw) (w39 hw) (w40 hw) d_prog_89_method_1_5 (layO_ArrayList hw) (by decide) 8 rfl (leD rfl) (leD rfl) fun T2 b2 S2 => ?_
  replace S2 := S2.as (L' := [(r, O_RowsRead Z .null .null), (b2, O_ArrayList Z (.int (0 : Int32)) .null (.int (0 : Int32)))]) (M' := []) (cells' := 1) (slots' := 3) rfl rfl rfl rfl
  refine C.dup S2 d_prog_89_method_1_8 9 rfl rfl ?_
  refine C.callSpecial (a := b2) S2 rfl (w41 hw) (w42 hw) (w40 hw) (w43 hw) (by decide) (alInit hw hCS hcs hD hDA b2) d_prog_89_method_1_9 12 rfl rfl pd4 [] [(.ref b2), (.ref r)] rfl rfl rfl [1] rfl (by decide) rfl [] rfl (leD rfl) (leD rfl) (leD rfl) (leD rfl) ?_
  rintro T3 _ _ _ ⟨rfl, rfl, rfl⟩ hro3 S3
  replace S3 := S3.as (L' := [(r, O_RowsRead Z .null .null), (b2, O_ArrayList Z (.int (0 : Int32)) (.ref dc) (.int (0 : Int32)))]) (M' := []) (cells' := 1) (slots' := 3) rfl rfl rfl rfl
  show Go p e below _ (T3.setTop (mkF m 12 #[.val (.ref r)] [(.ref b2), (.ref r)]))
  refine C.putfield S3 (host := "") (Or.inl (w62 hw)) Via.refl d_prog_89_method_1_12 0 rfl 0 rfl (Or.inr ⟨(w63 hw), rfl, rfl⟩) (w32 hw) (ty := (.object "java/util/List")) (by decide) rfl rfl 15 rfl fun T4 S4 => ?_
  replace S4 := S4.as (L' := [(r, O_RowsRead Z (.ref b2) .null), (b2, O_ArrayList Z (.int (0 : Int32)) (.ref dc) (.int (0 : Int32)))]) (M' := []) (cells' := 1) (slots' := 3) rfl rfl rfl rfl
  refine C.aloadN S4 d_prog_89_method_1_15 16 rfl rfl rfl ?_
  refine C.bipush S4 d_prog_89_method_1_16 18 rfl (16 : Int32) rfl ?_
  refine C.newarray (aty := .long) S4 (w64 hw) d_prog_89_method_1_18 20 rfl (by decide) 16 rfl 16 (leD rfl) (by decide) (leD rfl) (leD rfl) fun T5 b5 S5 => ?_
  replace S5 := S5.as (L' := [(r, O_RowsRead Z (.ref b2) .null), (b2, O_ArrayList Z (.int (0 : Int32)) (.ref dc) (.int (0 : Int32))), (b5, Ary Z .long [(.long (0 : Int64)), (.long (0 : Int64)), (.long (0 : Int64)), (.long (0 : Int64)), (.long (0 : Int64)), (.long (0 : Int64)), (.long (0 : Int64)), (.long (0 : Int64)), (.long (0 : Int64)), (.long (0 : Int64)), (.long (0 : Int64)), (.long (0 : Int64)), (.long (0 : Int64)), (.long (0 : Int64)), (.long (0 : Int64)), (.long (0 : Int64))])]) (M' := []) (cells' := 2) (slots' := 19) rfl rfl rfl rfl
  refine C.putfield S5 (host := "") (Or.inl (w65 hw)) Via.refl d_prog_89_method_1_20 0 rfl 1 rfl (Or.inl (w66 hw)) (w32 hw) (ty := (.array .long)) (by decide) rfl rfl 23 rfl fun T6 S6 => ?_
  replace S6 := S6.as (L' := [(r, O_RowsRead Z (.ref b2) (.ref b5)), (b2, O_ArrayList Z (.int (0 : Int32)) (.ref dc) (.int (0 : Int32))), (b5, Ary Z .long [(.long (0 : Int64)), (.long (0 : Int64)), (.long (0 : Int64)), (.long (0 : Int64)), (.long (0 : Int64)), (.long (0 : Int64)), (.long (0 : Int64)), (.long (0 : Int64)), (.long (0 : Int64)), (.long (0 : Int64)), (.long (0 : Int64)), (.long (0 : Int64)), (.long (0 : Int64)), (.long (0 : Int64)), (.long (0 : Int64)), (.long (0 : Int64))])]) (M' := []) (cells' := 2) (slots' := 19) rfl rfl rfl rfl
  exact C.retV S6 d_prog_89_method_1_23 [0, 1, 2] rfl (by decide) [] rfl fa0 ⟨b2, b5, rfl, rfl, rfl⟩ rfl (leD rfl) (leD rfl)
theorem d_prog_89_method_2_0 : decode prog_89_method_2_code 0 = .ok (.aload_n 0, 1) := by decide +kernel
theorem d_prog_89_method_2_1 : decode prog_89_method_2_code 1 = .ok (.getfield 10, 3) := by decide +kernel
theorem d_prog_89_method_2_4 : decode prog_89_method_2_code 4 = .ok (.invokeinterface 20 1, 5) := by decide +kernel
theorem pd11 : parseMethodDescriptor "()I" = some ⟨[], some .int⟩ := by decide +kernel
theorem d_prog_89_method_2_9 : decode prog_89_method_2_code 9 = .ok (.aload_n 0, 1) := by decide +kernel
theorem d_prog_89_method_2_10 : decode prog_89_method_2_code 10 = .ok (.getfield 16, 3) := by decide +kernel
theorem d_prog_89_method_2_13 : decode prog_89_method_2_code 13 = .ok (.arraylength, 1) := by decide +kernel
theorem d_prog_89_method_2_14 : decode prog_89_method_2_code 14 = .ok (.if_icmp .ne 21, 3) := by decide +kernel
theorem d_prog_89_method_2_35 : decode prog_89_method_2_code 35 = .ok (.aload_n 0, 1) := by decide +kernel
theorem d_prog_89_method_2_36 : decode prog_89_method_2_code 36 = .ok (.getfield 16, 3) := by decide +kernel
theorem d_prog_89_method_2_39 : decode prog_89_method_2_code 39 = .ok (.aload_n 0, 1) := by decide +kernel
theorem d_prog_89_method_2_40 : decode prog_89_method_2_code 40 = .ok (.getfield 10, 3) := by decide +kernel
theorem d_prog_89_method_2_43 : decode prog_89_method_2_code 43 = .ok (.invokeinterface 20 1, 5) := by decide +kernel
theorem d_prog_89_method_2_48 : decode prog_89_method_2_code 48 = .ok (.lload_n 2, 1) := by decide +kernel
theorem d_prog_89_method_2_49 : decode prog_89_method_2_code 49 = .ok (.lastore, 1) := by decide +kernel
theorem d_prog_89_method_2_50 : decode prog_89_method_2_code 50 = .ok (.aload_n 0, 1) := by decide +kernel
theorem d_prog_89_method_2_51 : decode prog_89_method_2_code 51 = .ok (.getfield 10, 3) := by decide +kernel
theorem d_prog_89_method_2_54 : decode prog_89_method_2_code 54 = .ok (.aload_n 1, 1) := by decide +kernel
theorem d_prog_89_method_2_55 : decode prog_89_method_2_code 55 = .ok (.invokeinterface 32 2, 5) := by decide +kernel
theorem pd12 : parseMethodDescriptor "(Ljava/lang/Object;)Z" = some ⟨[(.object "java/lang/Object")], some .boolean⟩ := by decide +kernel
theorem d_prog_89_method_2_60 : decode prog_89_method_2_code 60 = .ok (.pop, 1) := by decide +kernel
theorem d_prog_89_method_2_61 : decode prog_89_method_2_code 61 = .ok (.return_, 1) := by decide +kernel
theorem ef_rrAdd_0 {r : Addr} {w : Addr} {q : Int64} (m : MethodId) : entryFrame m #[(.ref r), (.ref w), (.long q)] 4 = mkF m 0 #[.val (.ref r), .val (.ref w), .val (.long q), .second] [] := by first | (simp [entryFrame, mkF, argsToLocals, Value.category]; done) | rfl
set_option maxRecDepth 65536 in
set_option maxHeartbeats 40000000 in
theorem rrAdd_0 {lch : Launch} {Z : State} {a0 : Array Value} {cst : Int32} {dc : Addr} (hw : Hw a0 Z) (hCS : Sta Z Z.heap "java/lang/String" "COMPACT_STRINGS" "Z" (.int cst)) (hcs : ¬ cst = 0) (hD : Sta Z Z.heap "java/util/ArrayList" "DEFAULTCAPACITY_EMPTY_ELEMENTDATA" "[Ljava/lang/Object;" (.ref dc)) (hDA : ∃ c, Z.heap[dc]? = some c ∧ Ary Z (.object "java/lang/Object") [] c) (r : Addr) (w : Addr) (q : Int64) (l : Addr) (ln : Addr) (mc : Int32) (wv : Addr) :
    Con lch Z (⟨"com/example/exdate/exdate/cli/RowsRead", "add", "(Ljava/lang/Object;J)V"⟩ : MethodName) prog_89_method_2_code 4 (Option.none : Option Jvm.ClassFile.FieldType) ({ frames := 5, cells := 1, slots := 10, locals := 69 } : Room) #[(.ref r), (.ref w), (.long q)] [(r, O_RowsRead Z (.ref l) (.ref ln)), (l, O_ArrayList Z (.int mc) (.ref dc) (.int (0 : Int32))), (ln, Ary Z .long [(.long (0 : Int64)), (.long (0 : Int64)), (.long (0 : Int64)), (.long (0 : Int64)), (.long (0 : Int64)), (.long (0 : Int64)), (.long (0 : Int64)), (.long (0 : Int64)), (.long (0 : Int64)), (.long (0 : Int64)), (.long (0 : Int64)), (.long (0 : Int64)), (.long (0 : Int64)), (.long (0 : Int64)), (.long (0 : Int64)), (.long (0 : Int64))]), (w, O_String Z (.int (0 : Int32)) (.ref wv))] []
      (fun rv L1 M1 => ∃ (b : Addr), rv = none ∧ L1 = [(r, O_RowsRead Z (.ref l) (.ref ln)), (l, O_ArrayList Z (.int (mc + (1 : Int32))) (.ref b) (.int (1 : Int32))), (ln, Ary Z .long [(.long q), (.long (0 : Int64)), (.long (0 : Int64)), (.long (0 : Int64)), (.long (0 : Int64)), (.long (0 : Int64)), (.long (0 : Int64)), (.long (0 : Int64)), (.long (0 : Int64)), (.long (0 : Int64)), (.long (0 : Int64)), (.long (0 : Int64)), (.long (0 : Int64)), (.long (0 : Int64)), (.long (0 : Int64)), (.long (0 : Int64))]), (w, O_String Z (.int (0 : Int32)) (.ref wv)), (b, AryR Z "java/lang/Object" [(.ref w), .null, .null, .null, .null, .null, .null, .null, .null, .null])] ∧ M1 = []) := by
  refine Con.of_body (plainFor_of_name pn7) (fun m => ef_rrAdd_0 m) ?_
  intro p e s m below meth c T0 h0 C S0
  refine C.aloadN S0 d_prog_89_method_2_0 1 rfl rfl rfl ?_
  refine C.getfield S0 (host := "") (Or.inl (w62 hw)) Via.refl d_prog_89_method_2_1 (S0.fld 0 rfl 0 rfl) 4 rfl fun T1 S1 => ?_
  refine C.callIface S1 (S1.exa 1 rfl) (w72 hw) (w73 hw) (w74 hw) rfl (w75 hw) (w76 hw) (w77 hw) (w78 hw) (w79 hw) (w40 hw) (w80 hw) (by decide) (alSize hw hCS hcs hD hDA l mc (.ref dc) (0 : Int32)) d_prog_89_method_2_4 9 rfl rfl pd11 [] [] rfl rfl rfl [1] rfl (by decide) rfl [] rfl (leD rfl) (leD rfl) (leD rfl) (leD rfl) ?_
  rintro T2 _ _ _ ⟨rfl, rfl, rfl⟩ hro2 S2
  replace S2 := S2.as (L' := [(r, O_RowsRead Z (.ref l) (.ref ln)), (l, O_ArrayList Z (.int mc) (.ref dc) (.int (0 : Int32))), (ln, Ary Z .long [(.long (0 : Int64)), (.long (0 : Int64)), (.long (0 : Int64)), (.long (0 : Int64)), (.long (0 : Int64)), (.long (0 : Int64)), (.long (0 : Int64)), (.long (0 : Int64)), (.long (0 : Int64)), (.long (0 : Int64)), (.long (0 : Int64)), (.long (0 : Int64)), (.long (0 : Int64)), (.long (0 : Int64)), (.long (0 : Int64)), (.long (0 : Int64))]), (w, O_String Z (.int (0 : Int32)) (.ref wv))]) (M' := []) (cells' := 0) (slots' := 0) rfl rfl rfl rfl
  show Go p e below _ (T2.setTop (mkF m 9 #[.val (.ref r), .val (.ref w), .val (.long q), .second] [(.int (0 : Int32))]))
  refine C.aloadN S2 d_prog_89_method_2_9 10 rfl rfl rfl ?_
  refine C.getfield S2 (host := "") (Or.inl (w65 hw)) Via.refl d_prog_89_method_2_10 (S2.fld 0 rfl 1 rfl) 13 rfl fun T3 S3 => ?_
  refine C.arraylength S3 (S3.at 2 rfl) d_prog_89_method_2_13 14 rfl (16 : Int32) rfl ?_
  refine C.icmp_ne S3 d_prog_89_method_2_14 35 17 (by decide) (by decide) rfl (fun hc4 => ?_) fun hc4 => absurd hc4 (by decide)
  refine C.aloadN S3 d_prog_89_method_2_35 36 rfl rfl rfl ?_
  refine C.getfield S3 (host := "") (Or.inl (w65 hw)) Via.refl d_prog_89_method_2_36 (S3.fld 0 rfl 1 rfl) 39 rfl fun T5 S5 => ?_
  refine C.aloadN S5 d_prog_89_method_2_39 40 rfl rfl rfl ?_
  refine C.getfield S5 (host := "") (Or.inl (w62 hw)) Via.refl d_prog_89_method_2_40 (S5.fld 0 rfl 0 rfl) 43 rfl fun T6 S6 => ?_
  refine C.callIface S6 (S6.exa 1 rfl) (w72 hw) (w73 hw) (w74 hw) rfl (w75 hw) (w76 hw) (w77 hw) (w78 hw) (w79 hw) (w40 hw) (w80 hw) (by decide) (alSize hw hCS hcs hD hDA l mc (.ref dc) (0 : Int32)) d_prog_89_method_2_43 48 rfl rfl pd11 [] [(.ref ln)] rfl rfl rfl [1] rfl (by decide) rfl [] rfl (leD rfl) (leD rfl) (leD rfl) (leD rfl) ?_
  rintro T7 _ _ _ ⟨rfl, rfl, rfl⟩ hro7 S7
  replace S7 := S7.as (L' := [(r, O_RowsRead Z (.ref l) (.ref ln)), (l, O_ArrayList Z (.int mc) (.ref dc) (.int (0 : Int32))), (ln, Ary Z .long [(.long (0 : Int64)), (.long (0 : Int64)), (.long (0 : Int64)), (.long (0 : Int64)), (.long (0 : Int64)), (.long (0 : Int64)), (.long (0 : Int64)), (.long (0 : Int64)), (.long (0 : Int64)), (.long (0 : Int64)), (.long (0 : Int64)), (.long (0 : Int64)), (.long (0 : Int64)), (.long (0 : Int64)), (.long (0 : Int64)), (.long (0 : Int64))]), (w, O_String Z (.int (0 : Int32)) (.ref wv))]) (M' := []) (cells' := 0) (slots' := 0) rfl rfl rfl rfl
  show Go p e below _ (T7.setTop (mkF m 48 #[.val (.ref r), .val (.ref w), .val (.long q), .second] [(.int (0 : Int32)), (.ref ln)]))
  refine C.lloadN S7 d_prog_89_method_2_48 49 rfl rfl ?_
  refine C.lastore S7 2 rfl d_prog_89_method_2_49 50 rfl (by decide) 0 rfl (leD rfl) q rfl fun T8 S8 => ?_
  replace S8 := S8.as (L' := [(r, O_RowsRead Z (.ref l) (.ref ln)), (l, O_ArrayList Z (.int mc) (.ref dc) (.int (0 : Int32))), (ln, Ary Z .long [(.long q), (.long (0 : Int64)), (.long (0 : Int64)), (.long (0 : Int64)), (.long (0 : Int64)), (.long (0 : Int64)), (.long (0 : Int64)), (.long (0 : Int64)), (.long (0 : Int64)), (.long (0 : Int64)), (.long (0 : Int64)), (.long (0 : Int64)), (.long (0 : Int64)), (.long (0 : Int64)), (.long (0 : Int64)), (.long (0 : Int64))]), (w, O_String Z (.int (0 : Int32)) (.ref wv))]) (M' := []) (cells' := 0) (slots' := 0) rfl rfl rfl rfl
  refine C.aloadN S8 d_prog_89_method_2_50 51 rfl rfl rfl ?_
  refine C.getfield S8 (host := "") (Or.inl (w62 hw)) Via.refl d_prog_89_method_2_51 (S8.fld 0 rfl 0 rfl) 54 rfl fun T9 S9 => ?_
  refine C.aloadN S9 d_prog_89_method_2_54 55 rfl rfl rfl ?_
  refine C.callIface S9 (S9.exa 1 rfl) (w83 hw) (w84 hw) (w85 hw) rfl (w86 hw) (w87 hw) (w88 hw) (w89 hw) (w79 hw) (w40 hw) (w90 hw) (by decide) (alAdd_0 hw hCS hcs hD hDA l mc w wv) d_prog_89_method_2_55 60 rfl rfl pd12 [(.ref w)] [] rfl rfl rfl [1, 3] rfl (by decide) rfl [] rfl (leD rfl) (leD rfl) (leD rfl) (leD rfl) ?_
  rintro T10 _ _ _ ⟨b11, rfl, rfl, rfl⟩ hro10 S10
  replace S10 := S10.as (L' := [(r, O_RowsRead Z (.ref l) (.ref ln)), (l, O_ArrayList Z (.int (mc + (1 : Int32))) (.ref b11) (.int (1 : Int32))), (ln, Ary Z .long [(.long q), (.long (0 : Int64)), (.long (0 : Int64)), (.long (0 : Int64)), (.long (0 : Int64)), (.long (0 : Int64)), (.long (0 : Int64)), (.long (0 : Int64)), (.long (0 : Int64)), (.long (0 : Int64)), (.long (0 : Int64)), (.long (0 : Int64)), (.long (0 : Int64)), (.long (0 : Int64)), (.long (0 : Int64)), (.long (0 : Int64))]), (w, O_String Z (.int (0 : Int32)) (.ref wv)), (b11, AryR Z "java/lang/Object" [(.ref w), .null, .null, .null, .null, .null, .null, .null, .null, .null])]) (M' := []) (cells' := 1) (slots' := 10) rfl rfl rfl rfl
  show Go p e below _ (T10.setTop (mkF m 60 #[.val (.ref r), .val (.ref w), .val (.long q), .second] [(.int (1 : Int32))]))
  refine C.pop S10 d_prog_89_method_2_60 61 rfl rfl ?_
  exact C.retV S10 d_prog_89_method_2_61 [0, 1, 2, 3, 4] rfl (by decide) [] rfl fa0 ⟨b11, rfl, rfl, rfl⟩ rfl (leD rfl) (leD rfl)
theorem ef_rrAdd_1 {r : Addr} {w : Addr} {q : Int64} (m : MethodId) : entryFrame m #[(.ref r), (.ref w), (.long q)] 4 = mkF m 0 #[.val (.ref r), .val (.ref w), .val (.long q), .second] [] := by first | (simp [entryFrame, mkF, argsToLocals, Value.category]; done) | rfl
set_option maxRecDepth 65536 in
set_option maxHeartbeats 40000000 in
theorem rrAdd_1 {lch : Launch} {Z : State} {a0 : Array Value} {cst : Int32} {dc : Addr} (hw : Hw a0 Z) (hCS : Sta Z Z.heap "java/lang/String" "COMPACT_STRINGS" "Z" (.int cst)) (hcs : ¬ cst = 0) (hD : Sta Z Z.heap "java/util/ArrayList" "DEFAULTCAPACITY_EMPTY_ELEMENTDATA" "[Ljava/lang/Object;" (.ref dc)) (hDA : ∃ c, Z.heap[dc]? = some c ∧ Ary Z (.object "java/lang/Object") [] c) (r : Addr) (w : Addr) (q : Int64) (l : Addr) (ln : Addr) (mc : Int32) (wv : Addr) (q0 : Int64) (v0 : Addr) (b : Addr) :
    Con lch Z (⟨"com/example/exdate/exdate/cli/RowsRead", "add", "(Ljava/lang/Object;J)V"⟩ : MethodName) prog_89_method_2_code 4 (Option.none : Option Jvm.ClassFile.FieldType) ({ frames := 2, cells := 0, slots := 0, locals := 28 } : Room) #[(.ref r), (.ref w), (.long q)] [(r, O_RowsRead Z (.ref l) (.ref ln)), (l, O_ArrayList Z (.int mc) (.ref b) (.int (1 : Int32))), (ln, Ary Z .long [(.long q0), (.long (0 : Int64)), (.long (0 : Int64)), (.long (0 : Int64)), (.long (0 : Int64)), (.long (0 : Int64)), (.long (0 : Int64)), (.long (0 : Int64)), (.long (0 : Int64)), (.long (0 : Int64)), (.long (0 : Int64)), (.long (0 : Int64)), (.long (0 : Int64)), (.long (0 : Int64)), (.long (0 : Int64)), (.long (0 : Int64))]), (w, O_String Z (.int (0 : Int32)) (.ref wv)), (b, AryR Z "java/lang/Object" [(.ref v0), .null, .null, .null, .null, .null, .null, .null, .null, .null])] []
      (fun rv L1 M1 => rv = none ∧ L1 = [(r, O_RowsRead Z (.ref l) (.ref ln)), (l, O_ArrayList Z (.int (mc + (1 : Int32))) (.ref b) (.int (2 : Int32))), (ln, Ary Z .long [(.long q0), (.long q), (.long (0 : Int64)), (.long (0 : Int64)), (.long (0 : Int64)), (.long (0 : Int64)), (.long (0 : Int64)), (.long (0 : Int64)), (.long (0 : Int64)), (.long (0 : Int64)), (.long (0 : Int64)), (.long (0 : Int64)), (.long (0 : Int64)), (.long (0 : Int64)), (.long (0 : Int64)), (.long (0 : Int64))]), (w, O_String Z (.int (0 : Int32)) (.ref wv)), (b, AryR Z "java/lang/Object" [(.ref v0), (.ref w), .null, .null, .null, .null, .null, .null, .null, .null])] ∧ M1 = []) := by
  refine Con.of_body (plainFor_of_name pn7) (fun m => ef_rrAdd_1 m) ?_
  intro p e s m below meth c T0 h0 C S0
  refine C.aloadN S0 d_prog_89_method_2_0 1 rfl rfl rfl ?_
  refine C.getfield S0 (host := "") (Or.inl (w62 hw)) Via.refl d_prog_89_method_2_1 (S0.fld 0 rfl 0 rfl) 4 rfl fun T1 S1 => ?_
  refine C.callIface S1 (S1.exa 1 rfl) (w72 hw) (w73 hw) (w74 hw) rfl (w75 hw) (w76 hw) (w77 hw) (w78 hw) (w79 hw) (w40 hw) (w80 hw) (by decide) (alSize hw hCS hcs hD hDA l mc (.ref b) (1 : Int32)) d_prog_89_method_2_4 9 rfl rfl pd11 [] [] rfl rfl rfl [1] rfl (by decide) rfl [] rfl (leD rfl) (leD rfl) (leD rfl) (leD rfl) ?_
  rintro T2 _ _ _ ⟨rfl, rfl, rfl⟩ hro2 S2
  replace S2 := S2.as (L' := [(r, O_RowsRead Z (.ref l) (.ref ln)), (l, O_ArrayList Z (.int mc) (.ref b) (.int (1 : Int32))), (ln, Ary Z .long [(.long q0), (.long (0 : Int64)), (.long (0 : Int64)), (.long (0 : Int64)), (.long (0 : Int64)), (.long (0 : Int64)), (.long (0 : Int64)), (.long (0 : Int64)), (.long (0 : Int64)), (.long (0 : Int64)), (.long (0 : Int64)), (.long (0 : Int64)), (.long (0 : Int64)), (.long (0 : Int64)), (.long (0 : Int64)), (.long (0 : Int64))]), (w, O_String Z (.int (0 : Int32)) (.ref wv)), (b, AryR Z "java/lang/Object" [(.ref v0), .null, .null, .null, .null, .null, .null, .null, .null, .null])]) (M' := []) (cells' := 0) (slots' := 0) rfl rfl rfl rfl
  show Go p e below _ (T2.setTop (mkF m 9 #[.val (.ref r), .val (.ref w), .val (.long q), .second] [(.int (1 : Int32))]))
  refine C.aloadN S2 d_prog_89_method_2_9 10 rfl rfl rfl ?_
  refine C.getfield S2 (host := "") (Or.inl (w65 hw)) Via.refl d_prog_89_method_2_10 (S2.fld 0 rfl 1 rfl) 13 rfl fun T3 S3 => ?_
  refine C.arraylength S3 (S3.at 2 rfl) d_prog_89_method_2_13 14 rfl (16 : Int32) rfl ?_
  refine C.icmp_ne S3 d_prog_89_method_2_14 35 17 (by decide) (by decide) rfl (fun hc4 => ?_) fun hc4 => absurd hc4 (by decide)
  refine C.aloadN S3 d_prog_89_method_2_35 36 rfl rfl rfl ?_
  refine C.getfield S3 (host := "") (Or.inl (w65 hw)) Via.refl d_prog_89_method_2_36 (S3.fld 0 rfl 1 rfl) 39 rfl fun T5 S5 => ?_
  refine C.aloadN S5 d_prog_89_method_2_39 40 rfl rfl rfl ?_
  refine C.getfield S5 (host := "") (Or.inl (w62 hw)) Via.refl d_prog_89_method_2_40 (S5.fld 0 rfl 0 rfl) 43 rfl fun T6 S6 => ?_
  refine C.callIface S6 (S6.exa 1 rfl) (w72 hw) (w73 hw) (w74 hw) rfl (w75 hw) (w76 hw) (w77 hw) (w78 hw) (w79 hw) (w40 hw) (w80 hw) (by decide) (alSize hw hCS hcs hD hDA l mc (.ref b) (1 : Int32)) d_prog_89_method_2_43 48 rfl rfl pd11 [] [(.ref ln)] rfl rfl rfl [1] rfl (by decide) rfl [] rfl (leD rfl) (leD rfl) (leD rfl) (leD rfl) ?_
  rintro T7 _ _ _ ⟨rfl, rfl, rfl⟩ hro7 S7
  replace S7 := S7.as (L' := [(r, O_RowsRead Z (.ref l) (.ref ln)), (l, O_ArrayList Z (.int mc) (.ref b) (.int (1 : Int32))), (ln, Ary Z .long [(.long q0), (.long (0 : Int64)), (.long (0 : Int64)), (.long (0 : Int64)), (.long (0 : Int64)), (.long (0 : Int64)), (.long (0 : Int64)), (.long (0 : Int64)), (.long (0 : Int64)), (.long (0 : Int64)), (.long (0 : Int64)), (.long (0 : Int64)), (.long (0 : Int64)), (.long (0 : Int64)), (.long (0 : Int64)), (.long (0 : Int64))]), (w, O_String Z (.int (0 : Int32)) (.ref wv)), (b, AryR Z "java/lang/Object" [(.ref v0), .null, .null, .null, .null, .null, .null, .null, .null, .null])]) (M' := []) (cells' := 0) (slots' := 0) rfl rfl rfl rfl
  show Go p e below _ (T7.setTop (mkF m 48 #[.val (.ref r), .val (.ref w), .val (.long q), .second] [(.int (1 : Int32)), (.ref ln)]))
  refine C.lloadN S7 d_prog_89_method_2_48 49 rfl rfl ?_
  refine C.lastore S7 2 rfl d_prog_89_method_2_49 50 rfl (by decide) 1 rfl (leD rfl) q rfl fun T8 S8 => ?_
  replace S8 := S8.as (L' := [(r, O_RowsRead Z (.ref l) (.ref ln)), (l, O_ArrayList Z (.int mc) (.ref b) (.int (1 : Int32))), (ln, Ary Z .long [(.long q0), (.long q), (.long (0 : Int64)), (.long (0 : Int64)), (.long (0 : Int64)), (.long (0 : Int64)), (.long (0 : Int64)), (.long (0 : Int64)), (.long (0 : Int64)), (.long (0 : Int64)), (.long (0 : Int64)), (.long (0 : Int64)), (.long (0 : Int64)), (.long (0 : Int64)), (.long (0 : Int64)), (.long (0 : Int64))]), (w, O_String Z (.int (0 : Int32)) (.ref wv)), (b, AryR Z "java/lang/Object" [(.ref v0), .null, .null, .null, .null, .null, .null, .null, .null, .null])]) (M' := []) (cells' := 0) (slots' := 0) rfl rfl rfl rfl
  refine C.aloadN S8 d_prog_89_method_2_50 51 rfl rfl rfl ?_
  refine C.getfield S8 (host := "") (Or.inl (w62 hw)) Via.refl d_prog_89_method_2_51 (S8.fld 0 rfl 0 rfl) 54 rfl fun T9 S9 => ?_
  refine C.aloadN S9 d_prog_89_method_2_54 55 rfl rfl rfl ?_
  refine C.callIface S9 (S9.exa 1 rfl) (w83 hw) (w84 hw) (w85 hw) rfl (w86 hw) (w87 hw) (w88 hw) (w89 hw) (w79 hw) (w40 hw) (w90 hw) (by decide) (alAdd_1 hw hCS hcs hD hDA l mc w wv b v0) d_prog_89_method_2_55 60 rfl rfl pd12 [(.ref w)] [] rfl rfl rfl [1, 3, 4] rfl (by decide) rfl [] rfl (leD rfl) (leD rfl) (leD rfl) (leD rfl) ?_
  rintro T10 _ _ _ ⟨rfl, rfl, rfl⟩ hro10 S10
  replace S10 := S10.as (L' := [(r, O_RowsRead Z (.ref l) (.ref ln)), (l, O_ArrayList Z (.int (mc + (1 : Int32))) (.ref b) (.int (2 : Int32))), (ln, Ary Z .long [(.long q0), (.long q), (.long (0 : Int64)), (.long (0 : Int64)), (.long (0 : Int64)), (.long (0 : Int64)), (.long (0 : Int64)), (.long (0 : Int64)), (.long (0 : Int64)), (.long (0 : Int64)), (.long (0 : Int64)), (.long (0 : Int64)), (.long (0 : Int64)), (.long (0 : Int64)), (.long (0 : Int64)), (.long (0 : Int64))]), (w, O_String Z (.int (0 : Int32)) (.ref wv)), (b, AryR Z "java/lang/Object" [(.ref v0), (.ref w), .null, .null, .null, .null, .null, .null, .null, .null])]) (M' := []) (cells' := 0) (slots' := 0) rfl rfl rfl rfl
  show Go p e below _ (T10.setTop (mkF m 60 #[.val (.ref r), .val (.ref w), .val (.long q), .second] [(.int (1 : Int32))]))
  refine C.pop S10 d_prog_89_method_2_60 61 rfl rfl ?_
  exact C.retV S10 d_prog_89_method_2_61 [0, 1, 2, 3, 4] rfl (by decide) [] rfl fa0 ⟨rfl, rfl, rfl⟩ rfl (leD rfl) (leD rfl)
theorem ef_rrAdd_2 {r : Addr} {w : Addr} {q : Int64} (m : MethodId) : entryFrame m #[(.ref r), (.ref w), (.long q)] 4 = mkF m 0 #[.val (.ref r), .val (.ref w), .val (.long q), .second] [] := by first | (simp [entryFrame, mkF, argsToLocals, Value.category]; done) | rfl
set_option maxRecDepth 65536 in
set_option maxHeartbeats 40000000 in
theorem rrAdd_2 {lch : Launch} {Z : State} {a0 : Array Value} {cst : Int32} {dc : Addr} (hw : Hw a0 Z) (hCS : Sta Z Z.heap "java/lang/String" "COMPACT_STRINGS" "Z" (.int cst)) (hcs : ¬ cst = 0) (hD : Sta Z Z.heap "java/util/ArrayList" "DEFAULTCAPACITY_EMPTY_ELEMENTDATA" "[Ljava/lang/Object;" (.ref dc)) (hDA : ∃ c, Z.heap[dc]? = some c ∧ Ary Z (.object "java/lang/Object") [] c) (r : Addr) (w : Addr) (q : Int64) (l : Addr) (ln : Addr) (mc : Int32) (wv : Addr) (q0 : Int64) (q1 : Int64) (v0 : Addr) (v1 : Addr) (b : Addr) :
    Con lch Z (⟨"com/example/exdate/exdate/cli/RowsRead", "add", "(Ljava/lang/Object;J)V"⟩ : MethodName) prog_89_method_2_code 4 (Option.none : Option Jvm.ClassFile.FieldType) ({ frames := 2, cells := 0, slots := 0, locals := 28 } : Room) #[(.ref r), (.ref w), (.long q)] [(r, O_RowsRead Z (.ref l) (.ref ln)), (l, O_ArrayList Z (.int mc) (.ref b) (.int (2 : Int32))), (ln, Ary Z .long [(.long q0), (.long q1), (.long (0 : Int64)), (.long (0 : Int64)), (.long (0 : Int64)), (.long (0 : Int64)), (.long (0 : Int64)), (.long (0 : Int64)), (.long (0 : Int64)), (.long (0 : Int64)), (.long (0 : Int64)), (.long (0 : Int64)), (.long (0 : Int64)), (.long (0 : Int64)), (.long (0 : Int64)), (.long (0 : Int64))]), (w, O_String Z (.int (0 : Int32)) (.ref wv)), (b, AryR Z "java/lang/Object" [(.ref v0), (.ref v1), .null, .null, .null, .null, .null, .null, .null, .null])] []
      (fun rv L1 M1 => rv = none ∧ L1 = [(r, O_RowsRead Z (.ref l) (.ref ln)), (l, O_ArrayList Z (.int (mc + (1 : Int32))) (.ref b) (.int (3 : Int32))), (ln, Ary Z .long [(.long q0), (.long q1), (.long q), (.long (0 : Int64)), (.long (0 : Int64)), (.long (0 : Int64)), (.long (0 : Int64)), (.long (0 : Int64)), (.long (0 : Int64)), (.long (0 : Int64)), (.long (0 : Int64)), (.long (0 : Int64)), (.long (0 : Int64)), (.long (0 : Int64)), (.long (0 : Int64)), (.long (0 : Int64))]), (w, O_String Z (.int (0 : Int32)) (.ref wv)), (b, AryR Z "java/lang/Object" [(.ref v0), (.ref v1), (.ref w), .null, .null, .null, .null, .null, .null, .null])] ∧ M1 = []) := by
  refine Con.of_body (plainFor_of_name pn7) (fun m => ef_rrAdd_2 m) ?_
  intro p e s m below meth c T0 h0 C S0
  refine C.aloadN S0 d_prog_89_method_2_0 1 rfl rfl rfl ?_
  refine C.getfield S0 (host := "") (Or.inl (w62 hw)) Via.refl d_prog_89_method_2_1 (S0.fld 0 rfl 0 rfl) 4 rfl fun T1 S1 => ?_
  refine C.callIface S1 (S1.exa 1 rfl) (w72 hw) (w73 hw) (w74 hw) rfl (w75 hw) (w76 hw) (w77 hw) (w78 hw) (w79 hw) (w40 hw) (w80 hw) (by decide) (alSize hw hCS hcs hD hDA l mc (.ref b) (2 : Int32)) d_prog_89_method_2_4 9 rfl rfl pd11 [] [] rfl rfl rfl [1] rfl (by decide) rfl [] rfl (leD rfl) (leD rfl) (leD rfl) (leD rfl) ?_
  rintro T2 _ _ _ ⟨rfl, rfl, rfl⟩ hro2 S2
  replace S2 := S2.as (L' := [(r, O_RowsRead Z (.ref l) (.ref ln)), (l, O_ArrayList Z (.int mc) (.ref b) (.int (2 : Int32))), (ln, Ary Z .long [(.long q0), (.long q1), (.long (0 : Int64)), (.long (0 : Int64)), (.long (0 : Int64)), (.long (0 : Int64)), (.long (0 : Int64)), (.long (0 : Int64)), (.long (0 : Int64)), (.long (0 : Int64)), (.long (0 : Int64)), (.long (0 : Int64)), (.long (0 : Int64)), (.long (0 : Int64)), (.long (0 : Int64)), (.long (0 : Int64))]), (w, O_String Z (.int (0 : Int32)) (.ref wv)), (b, AryR Z "java/lang/Object" [(.ref v0), (.ref v1), .null, .null, .null, .null, .null, .null, .null, .null])]) (M' := []) (cells' := 0) (slots' := 0) rfl rfl rfl rfl
  show Go p e below _ (T2.setTop (mkF m 9 #[.val (.ref r), .val (.ref w), .val (.long q), .second] [(.int (2 : Int32))]))
  refine C.aloadN S2 d_prog_89_method_2_9 10 rfl rfl rfl ?_
  refine C.getfield S2 (host := "") (Or.inl (w65 hw)) Via.refl d_prog_89_method_2_10 (S2.fld 0 rfl 1 rfl) 13 rfl fun T3 S3 => ?_
  refine C.arraylength S3 (S3.at 2 rfl) d_prog_89_method_2_13 14 rfl (16 : Int32) rfl ?_
  refine C.icmp_ne S3 d_prog_89_method_2_14 35 17 (by decide) (by decide) rfl (fun hc4 => ?_) fun hc4 => absurd hc4 (by decide)
  refine C.aloadN S3 d_prog_89_method_2_35 36 rfl rfl rfl ?_
  refine C.getfield S3 (host := "") (Or.inl (w65 hw)) Via.refl d_prog_89_method_2_36 (S3.fld 0 rfl 1 rfl) 39 rfl fun T5 S5 => ?_
  refine C.aloadN S5 d_prog_89_method_2_39 40 rfl rfl rfl ?_
  refine C.getfield S5 (host := "") (Or.inl (w62 hw)) Via.refl d_prog_89_method_2_40 (S5.fld 0 rfl 0 rfl) 43 rfl fun T6 S6 => ?_
  refine C.callIface S6 (S6.exa 1 rfl) (w72 hw) (w73 hw) (w74 hw) rfl (w75 hw) (w76 hw) (w77 hw) (w78 hw) (w79 hw) (w40 hw) (w80 hw) (by decide) (alSize hw hCS hcs hD hDA l mc (.ref b) (2 : Int32)) d_prog_89_method_2_43 48 rfl rfl pd11 [] [(.ref ln)] rfl rfl rfl [1] rfl (by decide) rfl [] rfl (leD rfl) (leD rfl) (leD rfl) (leD rfl) ?_
  rintro T7 _ _ _ ⟨rfl, rfl, rfl⟩ hro7 S7
  replace S7 := S7.as (L' := [(r, O_RowsRead Z (.ref l) (.ref ln)), (l, O_ArrayList Z (.int mc) (.ref b) (.int (2 : Int32))), (ln, Ary Z .long [(.long q0), (.long q1), (.long (0 : Int64)), (.long (0 : Int64)), (.long (0 : Int64)), (.long (0 : Int64)), (.long (0 : Int64)), (.long (0 : Int64)), (.long (0 : Int64)), (.long (0 : Int64)), (.long (0 : Int64)), (.long (0 : Int64)), (.long (0 : Int64)), (.long (0 : Int64)), (.long (0 : Int64)), (.long (0 : Int64))]), (w, O_String Z (.int (0 : Int32)) (.ref wv)), (b, AryR Z "java/lang/Object" [(.ref v0), (.ref v1), .null, .null, .null, .null, .null, .null, .null, .null])]) (M' := []) (cells' := 0) (slots' := 0) rfl rfl rfl rfl
  show Go p e below _ (T7.setTop (mkF m 48 #[.val (.ref r), .val (.ref w), .val (.long q), .second] [(.int (2 : Int32)), (.ref ln)]))
  refine C.lloadN S7 d_prog_89_method_2_48 49 rfl rfl ?_
  refine C.lastore S7 2 rfl d_prog_89_method_2_49 50 rfl (by decide) 2 rfl (leD rfl) q rfl fun T8 S8 => ?_
  replace S8 := S8.as (L' := [(r, O_RowsRead Z (.ref l) (.ref ln)), (l, O_ArrayList Z (.int mc) (.ref b) (.int (2 : Int32))), (ln, Ary Z .long [(.long q0), (.long q1), (.long q), (.long (0 : Int64)), (.long (0 : Int64)), (.long (0 : Int64)), (.long (0 : Int64)), (.long (0 : Int64)), (.long (0 : Int64)), (.long (0 : Int64)), (.long (0 : Int64)), (.long (0 : Int64)), (.long (0 : Int64)), (.long (0 : Int64)), (.long (0 : Int64)), (.long (0 : Int64))]), (w, O_String Z (.int (0 : Int32)) (.ref wv)), (b, AryR Z "java/lang/Object" [(.ref v0), (.ref v1), .null, .null, .null, .null, .null, .null, .null, .null])]) (M' := []) (cells' := 0) (slots' := 0) rfl rfl rfl rfl
  refine C.aloadN S8 d_prog_89_method_2_50 51 rfl rfl rfl ?_
  refine C.getfield S8 (host := "") (Or.inl (w62 hw)) Via.refl d_prog_89_method_2_51 (S8.fld 0 rfl 0 rfl) 54 rfl fun T9 S9 => ?_
  refine C.aloadN S9 d_prog_89_method_2_54 55 rfl rfl rfl ?_
  refine C.callIface S9 (S9.exa 1 rfl) (w83 hw) (w84 hw) (w85 hw) rfl (w86 hw) (w87 hw) (w88 hw) (w89 hw) (w79 hw) (w40 hw) (w90 hw) (by decide) (alAdd_2 hw hCS hcs hD hDA l mc w wv b v0 v1) d_prog_89_method_2_55 60 rfl rfl pd12 [(.ref w)] [] rfl rfl rfl [1, 3, 4] rfl (by decide) rfl [] rfl (leD rfl) (leD rfl) (leD rfl) (leD rfl) ?_
  rintro T10 _ _ _ ⟨rfl, rfl, rfl⟩ hro10 S10
  replace S10 := S10.as (L' := [(r, O_RowsRead Z (.ref l) (.ref ln)), (l, O_ArrayList Z (.int (mc + (1 : Int32))) (.ref b) (.int (3 : Int32))), (ln, Ary Z .long [(.long q0), (.long q1), (.long q), (.long (0 : Int64)), (.long (0 : Int64)), (.long (0 : Int64)), (.long (0 : Int64)), (.long (0 : Int64)), (.long (0 : Int64)), (.long (0 : Int64)), (.long (0 : Int64)), (.long (0 : Int64)), (.long (0 : Int64)), (.long (0 : Int64)), (.long (0 : Int64)), (.long (0 : Int64))]), (w, O_String Z (.int (0 : Int32)) (.ref wv)), (b, AryR Z "java/lang/Object" [(.ref v0), (.ref v1), (.ref w), .null, .null, .null, .null, .null, .null, .null])]) (M' := []) (cells' := 0) (slots' := 0) rfl rfl rfl rfl
  show Go p e below _ (T10.setTop (mkF m 60 #[.val (.ref r), .val (.ref w), .val (.long q), .second] [(.int (1 : Int32))]))
  refine C.pop S10 d_prog_89_method_2_60 61 rfl rfl ?_
  exact C.retV S10 d_prog_89_method_2_61 [0, 1, 2, 3, 4] rfl (by decide) [] rfl fa0 ⟨rfl, rfl, rfl⟩ rfl (leD rfl) (leD rfl)
theorem d_prog_89_method_4_0 : decode prog_89_method_4_code 0 = .ok (.iconst 0, 1) := by decide +kernel
theorem d_prog_89_method_4_1 : decode prog_89_method_4_code 1 = .ok (.istore_n 2, 1) := by decide +kernel
theorem d_prog_89_method_4_2 : decode prog_89_method_4_code 2 = .ok (.iload_n 2, 1) := by decide +kernel
theorem d_prog_89_method_4_3 : decode prog_89_method_4_code 3 = .ok (.aload_n 0, 1) := by decide +kernel
theorem d_prog_89_method_4_4 : decode prog_89_method_4_code 4 = .ok (.getfield 10, 3) := by decide +kernel
theorem d_prog_89_method_4_7 : decode prog_89_method_4_code 7 = .ok (.invokeinterface 20 1, 5) := by decide +kernel
theorem d_prog_89_method_4_12 : decode prog_89_method_4_code 12 = .ok (.if_icmp .ge 23, 3) := by decide +kernel
theorem d_prog_89_method_4_15 : decode prog_89_method_4_code 15 = .ok (.aload_n 0, 1) := by decide +kernel
theorem d_prog_89_method_4_16 : decode prog_89_method_4_code 16 = .ok (.getfield 10, 3) := by decide +kernel
theorem d_prog_89_method_4_19 : decode prog_89_method_4_code 19 = .ok (.iload_n 2, 1) := by decide +kernel
theorem d_prog_89_method_4_20 : decode prog_89_method_4_code 20 = .ok (.invokeinterface 42 2, 5) := by decide +kernel
theorem d_prog_89_method_4_25 : decode prog_89_method_4_code 25 = .ok (.aload_n 1, 1) := by decide +kernel
theorem d_prog_89_method_4_26 : decode prog_89_method_4_code 26 = .ok (.if_acmp .eq 9, 3) := by decide +kernel
theorem d_prog_89_method_4_35 : decode prog_89_method_4_code 35 = .ok (.iload_n 2, 1) := by decide +kernel
theorem d_prog_89_method_4_36 : decode prog_89_method_4_code 36 = .ok (.aload_n 0, 1) := by decide +kernel
theorem d_prog_89_method_4_37 : decode prog_89_method_4_code 37 = .ok (.getfield 10, 3) := by decide +kernel
theorem d_prog_89_method_4_40 : decode prog_89_method_4_code 40 = .ok (.invokeinterface 20 1, 5) := by decide +kernel
theorem d_prog_89_method_4_45 : decode prog_89_method_4_code 45 = .ok (.if_icmp .ne 20, 3) := by decide +kernel
theorem d_prog_89_method_4_65 : decode prog_89_method_4_code 65 = .ok (.aload_n 0, 1) := by decide +kernel
theorem d_prog_89_method_4_66 : decode prog_89_method_4_code 66 = .ok (.getfield 16, 3) := by decide +kernel
theorem d_prog_89_method_4_69 : decode prog_89_method_4_code 69 = .ok (.iload_n 2, 1) := by decide +kernel
theorem d_prog_89_method_4_70 : decode prog_89_method_4_code 70 = .ok (.laload, 1) := by decide +kernel
theorem d_prog_89_method_4_71 : decode prog_89_method_4_code 71 = .ok (.lreturn, 1) := by decide +kernel
theorem ef_rrLine_1_0 {r : Addr} {v0 : Addr} (m : MethodId) : entryFrame m #[(.ref r), (.ref v0)] 3 = mkF m 0 #[.val (.ref r), .val (.ref v0), .unset] [] := by first | (simp [entryFrame, mkF, argsToLocals, Value.category]; done) | rfl
set_option maxRecDepth 65536 in
set_option maxHeartbeats 40000000 in
theorem rrLine_1_0 {lch : Launch} {Z : State} {a0 : Array Value} {cst : Int32} {dc : Addr} (hw : Hw a0 Z) (hCS : Sta Z Z.heap "java/lang/String" "COMPACT_STRINGS" "Z" (.int cst)) (hcs : ¬ cst = 0) (hD : Sta Z Z.heap "java/util/ArrayList" "DEFAULTCAPACITY_EMPTY_ELEMENTDATA" "[Ljava/lang/Object;" (.ref dc)) (hDA : ∃ c, Z.heap[dc]? = some c ∧ Ary Z (.object "java/lang/Object") [] c) (r : Addr) (l : Addr) (ln : Addr) (mc : Int32) (b : Addr) (v0 : Addr) (q0 : Int64) :
    Con lch Z (⟨"com/example/exdate/exdate/cli/RowsRead", "line", "(Ljava/lang/Object;)J"⟩ : MethodName) prog_89_method_4_code 3 (Option.some Jvm.ClassFile.FieldType.long) ({ frames := 3, cells := 0, slots := 0, locals := 40 } : Room) #[(.ref r), (.ref v0)] [(r, O_RowsRead Z (.ref l) (.ref ln)), (l, O_ArrayList Z (.int mc) (.ref b) (.int (1 : Int32))), (ln, Ary Z .long [(.long q0), (.long (0 : Int64)), (.long (0 : Int64)), (.long (0 : Int64)), (.long (0 : Int64)), (.long (0 : Int64)), (.long (0 : Int64)), (.long (0 : Int64)), (.long (0 : Int64)), (.long (0 : Int64)), (.long (0 : Int64)), (.long (0 : Int64)), (.long (0 : Int64)), (.long (0 : Int64)), (.long (0 : Int64)), (.long (0 : Int64))]), (b, AryR Z "java/lang/Object" [(.ref v0), .null, .null, .null, .null, .null, .null, .null, .null, .null])] []
      (fun rv L1 M1 => rv = some (.long q0) ∧ L1 = [(r, O_RowsRead Z (.ref l) (.ref ln)), (l, O_ArrayList Z (.int mc) (.ref b) (.int (1 : Int32))), (ln, Ary Z .long [(.long q0), (.long (0 : Int64)), (.long (0 : Int64)), (.long (0 : Int64)), (.long (0 : Int64)), (.long (0 : Int64)), (.long (0 : Int64)), (.long (0 : Int64)), (.long (0 : Int64)), (.long (0 : Int64)), (.long (0 : Int64)), (.long (0 : Int64)), (.long (0 : Int64)), (.long (0 : Int64)), (.long (0 : Int64)), (.long (0 : Int64))]), (b, AryR Z "java/lang/Object" [(.ref v0), .null, .null, .null, .null, .null, .null, .null, .null, .null])] ∧ M1 = []) := by
  refine Con.of_body (plainFor_of_name pn7) (fun m => ef_rrLine_1_0 m) ?_
  intro p e s m below meth c T0 h0 C S0
  refine C.iconst S0 d_prog_89_method_4_0 1 rfl (0 : Int32) rfl ?_
  refine C.istoreN S0 d_prog_89_method_4_1 2 rfl #[.val (.ref r), .val (.ref v0), .val (.int (0 : Int32))] rfl ?_
  refine C.iloadN S0 d_prog_89_method_4_2 3 rfl rfl ?_
  refine C.aloadN S0 d_prog_89_method_4_3 4 rfl rfl rfl ?_
  refine C.getfield S0 (host := "") (Or.inl (w62 hw)) Via.refl d_prog_89_method_4_4 (S0.fld 0 rfl 0 rfl) 7 rfl fun T1 S1 => ?_
  refine C.callIface S1 (S1.exa 1 rfl) (w72 hw) (w73 hw) (w74 hw) rfl (w75 hw) (w76 hw) (w77 hw) (w78 hw) (w79 hw) (w40 hw) (w80 hw) (by decide) (alSize hw hCS hcs hD hDA l mc (.ref b) (1 : Int32)) d_prog_89_method_4_7 12 rfl rfl pd11 [] [(.int (0 : Int32))] rfl rfl rfl [1] rfl (by decide) rfl [] rfl (leD rfl) (leD rfl) (leD rfl) (leD rfl) ?_
  rintro T2 _ _ _ ⟨rfl, rfl, rfl⟩ hro2 S2
  replace S2 := S2.as (L' := [(r, O_RowsRead Z (.ref l) (.ref ln)), (l, O_ArrayList Z (.int mc) (.ref b) (.int (1 : Int32))), (ln, Ary Z .long [(.long q0), (.long (0 : Int64)), (.long (0 : Int64)), (.long (0 : Int64)), (.long (0 : Int64)), (.long (0 : Int64)), (.long (0 : Int64)), (.long (0 : Int64)), (.long (0 : Int64)), (.long (0 : Int64)), (.long (0 : Int64)), (.long (0 : Int64)), (.long (0 : Int64)), (.long (0 : Int64)), (.long (0 : Int64)), (.long (0 : Int64))]), (b, AryR Z "java/lang/Object" [(.ref v0), .null, .null, .null, .null, .null, .null, .null, .null, .null])]) (M' := []) (cells' := 0) (slots' := 0) rfl rfl rfl rfl
  show Go p e below _ (T2.setTop (mkF m 12 #[.val (.ref r), .val (.ref v0), .val (.int (0 : Int32))] [(.int (1 : Int32)), (.int (0 : Int32))]))
  refine C.icmp_ge S2 d_prog_89_method_4_12 35 15 (by decide) (by decide) rfl (fun hc3 => absurd hc3 (by decide)) fun hc3 => ?_
  refine C.aloadN S2 d_prog_89_method_4_15 16 rfl rfl rfl ?_
  refine C.getfield S2 (host := "") (Or.inl (w62 hw)) Via.refl d_prog_89_method_4_16 (S2.fld 0 rfl 0 rfl) 19 rfl fun T4 S4 => ?_
  refine C.iloadN S4 d_prog_89_method_4_19 20 rfl rfl ?_
  refine C.callIface S4 (S4.exa 1 rfl) (w121 hw) (w122 hw) (w123 hw) rfl (w124 hw) (w125 hw) (w126 hw) (w127 hw) (w79 hw) (w40 hw) (w128 hw) (by decide) (alGet hw hCS hcs hD hDA l mc b (1 : Int32) [(.ref v0), .null, .null, .null, .null, .null, .null, .null, .null, .null] (0 : Int32) v0 (by decide) rfl (by decide)) d_prog_89_method_4_20 25 rfl rfl pd10 [(.int (0 : Int32))] [] rfl rfl rfl [1, 3] rfl (by decide) rfl [] rfl (leD rfl) (leD rfl) (leD rfl) (leD rfl) ?_
  rintro T5 _ _ _ ⟨rfl, rfl, rfl⟩ hro5 S5
  replace S5 := S5.as (L' := [(r, O_RowsRead Z (.ref l) (.ref ln)), (l, O_ArrayList Z (.int mc) (.ref b) (.int (1 : Int32))), (ln, Ary Z .long [(.long q0), (.long (0 : Int64)), (.long (0 : Int64)), (.long (0 : Int64)), (.long (0 : Int64)), (.long (0 : Int64)), (.long (0 : Int64)), (.long (0 : Int64)), (.long (0 : Int64)), (.long (0 : Int64)), (.long (0 : Int64)), (.long (0 : Int64)), (.long (0 : Int64)), (.long (0 : Int64)), (.long (0 : Int64)), (.long (0 : Int64))]), (b, AryR Z "java/lang/Object" [(.ref v0), .null, .null, .null, .null, .null, .null, .null, .null, .null])]) (M' := []) (cells' := 0) (slots' := 0) rfl rfl rfl rfl
  show Go p e below _ (T5.setTop (mkF m 25 #[.val (.ref r), .val (.ref v0), .val (.int (0 : Int32))] [(.ref v0)]))
  refine C.aloadN S5 d_prog_89_method_4_25 26 rfl rfl rfl ?_
  refine C.acmp_eq S5 d_prog_89_method_4_26 rfl rfl 35 29 (by decide) (by decide) rfl (fun hc6 => ?_) fun hc6 => absurd rfl hc6
  refine C.iloadN S5 d_prog_89_method_4_35 36 rfl rfl ?_
  refine C.aloadN S5 d_prog_89_method_4_36 37 rfl rfl rfl ?_
  refine C.getfield S5 (host := "") (Or.inl (w62 hw)) Via.refl d_prog_89_method_4_37 (S5.fld 0 rfl 0 rfl) 40 rfl fun T7 S7 => ?_
  refine C.callIface S7 (S7.exa 1 rfl) (w72 hw) (w73 hw) (w74 hw) rfl (w75 hw) (w76 hw) (w77 hw) (w78 hw) (w79 hw) (w40 hw) (w80 hw) (by decide) (alSize hw hCS hcs hD hDA l mc (.ref b) (1 : Int32)) d_prog_89_method_4_40 45 rfl rfl pd11 [] [(.int (0 : Int32))] rfl rfl rfl [1] rfl (by decide) rfl [] rfl (leD rfl) (leD rfl) (leD rfl) (leD rfl) ?_
  rintro T8 _ _ _ ⟨rfl, rfl, rfl⟩ hro8 S8
  replace S8 := S8.as (L' := [(r, O_RowsRead Z (.ref l) (.ref ln)), (l, O_ArrayList Z (.int mc) (.ref b) (.int (1 : Int32))), (ln, Ary Z .long [(.long q0), (.long (0 : Int64)), (.long (0 : Int64)), (.long (0 : Int64)), (.long (0 : Int64)), (.long (0 : Int64)), (.long (0 : Int64)), (.long (0 : Int64)), (.long (0 : Int64)), (.long (0 : Int64)), (.long (0 : Int64)), (.long (0 : Int64)), (.long (0 : Int64)), (.long (0 : Int64)), (.long (0 : Int64)), (.long (0 : Int64))]), (b, AryR Z "java/lang/Object" [(.ref v0), .null, .null, .null, .null, .null, .null, .null, .null, .null])]) (M' := []) (cells' := 0) (slots' := 0) rfl rfl rfl rfl
  show Go p e below _ (T8.setTop (mkF m 45 #[.val (.ref r), .val (.ref v0), .val (.int (0 : Int32))] [(.int (1 : Int32)), (.int (0 : Int32))]))
  refine C.icmp_ne S8 d_prog_89_method_4_45 65 48 (by decide) (by decide) rfl (fun hc9 => ?_) fun hc9 => absurd hc9 (by decide)
  refine C.aloadN S8 d_prog_89_method_4_65 66 rfl rfl rfl ?_
  refine C.getfield S8 (host := "") (Or.inl (w65 hw)) Via.refl d_prog_89_method_4_66 (S8.fld 0 rfl 1 rfl) 69 rfl fun T10 S10 => ?_
  refine C.iloadN S10 d_prog_89_method_4_69 70 rfl rfl ?_
  refine C.laload S10 (S10.at 2 rfl) d_prog_89_method_4_70 71 rfl (by decide) 0 rfl rfl ?_
  exact C.retJ S10 d_prog_89_method_4_71 [0, 1, 2, 3] rfl (by decide) [] rfl fa0 ⟨rfl, rfl, rfl⟩ rfl (leD rfl) (leD rfl)
theorem ef_rrLine_2_0 {r : Addr} {v0 : Addr} (m : MethodId) : entryFrame m #[(.ref r), (.ref v0)] 3 = mkF m 0 #[.val (.ref r), .val (.ref v0), .unset] [] := by first | (simp [entryFrame, mkF, argsToLocals, Value.category]; done) | rfl
set_option maxRecDepth 65536 in
set_option maxHeartbeats 40000000 in
theorem rrLine_2_0 {lch : Launch} {Z : State} {a0 : Array Value} {cst : Int32} {dc : Addr} (hw : Hw a0 Z) (hCS : Sta Z Z.heap "java/lang/String" "COMPACT_STRINGS" "Z" (.int cst)) (hcs : ¬ cst = 0) (hD : Sta Z Z.heap "java/util/ArrayList" "DEFAULTCAPACITY_EMPTY_ELEMENTDATA" "[Ljava/lang/Object;" (.ref dc)) (hDA : ∃ c, Z.heap[dc]? = some c ∧ Ary Z (.object "java/lang/Object") [] c) (r : Addr) (l : Addr) (ln : Addr) (mc : Int32) (b : Addr) (v0 : Addr) (v1 : Addr) (q0 : Int64) (q1 : Int64) :
    Con lch Z (⟨"com/example/exdate/exdate/cli/RowsRead", "line", "(Ljava/lang/Object;)J"⟩ : MethodName) prog_89_method_4_code 3 (Option.some Jvm.ClassFile.FieldType.long) ({ frames := 3, cells := 0, slots := 0, locals := 40 } : Room) #[(.ref r), (.ref v0)] [(r, O_RowsRead Z (.ref l) (.ref ln)), (l, O_ArrayList Z (.int mc) (.ref b) (.int (2 : Int32))), (ln, Ary Z .long [(.long q0), (.long q1), (.long (0 : Int64)), (.long (0 : Int64)), (.long (0 : Int64)), (.long (0 : Int64)), (.long (0 : Int64)), (.long (0 : Int64)), (.long (0 : Int64)), (.long (0 : Int64)), (.long (0 : Int64)), (.long (0 : Int64)), (.long (0 : Int64)), (.long (0 : Int64)), (.long (0 : Int64)), (.long (0 : Int64))]), (b, AryR Z "java/lang/Object" [(.ref v0), (.ref v1), .null, .null, .null, .null, .null, .null, .null, .null])] []
      (fun rv L1 M1 => rv = some (.long q0) ∧ L1 = [(r, O_RowsRead Z (.ref l) (.ref ln)), (l, O_ArrayList Z (.int mc) (.ref b) (.int (2 : Int32))), (ln, Ary Z .long [(.long q0), (.long q1), (.long (0 : Int64)), (.long (0 : Int64)), (.long (0 : Int64)), (.long (0 : Int64)), (.long (0 : Int64)), (.long (0 : Int64)), (.long (0 : Int64)), (.long (0 : Int64)), (.long (0 : Int64)), (.long (0 : Int64)), (.long (0 : Int64)), (.long (0 : Int64)), (.long (0 : Int64)), (.long (0 : Int64))]), (b, AryR Z "java/lang/Object" [(.ref v0), (.ref v1), .null, .null, .null, .null, .null, .null, .null, .null])] ∧ M1 = []) := by
  refine Con.of_body (plainFor_of_name pn7) (fun m => ef_rrLine_2_0 m) ?_
  intro p e s m below meth c T0 h0 C S0
  refine C.iconst S0 d_prog_89_method_4_0 1 rfl (0 : Int32) rfl ?_
  refine C.istoreN S0 d_prog_89_method_4_1 2 rfl #[.val (.ref r), .val (.ref v0), .val (.int (0 : Int32))] rfl ?_
  refine C.iloadN S0 d_prog_89_method_4_2 3 rfl rfl ?_
  refine C.aloadN S0 d_prog_89_method_4_3 4 rfl rfl rfl ?_
  refine C.getfield S0 (host := "") (Or.inl (w62 hw)) Via.refl d_prog_89_method_4_4 (S0.fld 0 rfl 0 rfl) 7 rfl fun T1 S1 => ?_
  refine C.callIface S1 (S1.exa 1 rfl) (w72 hw) (w73 hw) (w74 hw) rfl (w75 hw) (w76 hw) (w77 hw) (w78 hw) (w79 hw) (w40 hw) (w80 hw) (by decide) (alSize hw hCS hcs hD hDA l mc (.ref b) (2 : Int32)) d_prog_89_method_4_7 12 rfl rfl pd11 [] [(.int (0 : Int32))] rfl rfl rfl [1] rfl (by decide) rfl [] rfl (leD rfl) (leD rfl) (leD rfl) (leD rfl) ?_
  rintro T2 _ _ _ ⟨rfl, rfl, rfl⟩ hro2 S2
  replace S2 := S2.as (L' := [(r, O_RowsRead Z (.ref l) (.ref ln)), (l, O_ArrayList Z (.int mc) (.ref b) (.int (2 : Int32))), (ln, Ary Z .long [(.long q0), (.long q1), (.long (0 : Int64)), (.long (0 : Int64)), (.long (0 : Int64)), (.long (0 : Int64)), (.long (0 : Int64)), (.long (0 : Int64)), (.long (0 : Int64)), (.long (0 : Int64)), (.long (0 : Int64)), (.long (0 : Int64)), (.long (0 : Int64)), (.long (0 : Int64)), (.long (0 : Int64)), (.long (0 : Int64))]), (b, AryR Z "java/lang/Object" [(.ref v0), (.ref v1), .null, .null, .null, .null, .null, .null, .null, .null])]) (M' := []) (cells' := 0) (slots' := 0) rfl rfl rfl rfl
  show Go p e below _ (T2.setTop (mkF m 12 #[.val (.ref r), .val (.ref v0), .val (.int (0 : Int32))] [(.int (2 : Int32)), (.int (0 : Int32))]))
  refine C.icmp_ge S2 d_prog_89_method_4_12 35 15 (by decide) (by decide) rfl (fun hc3 => absurd hc3 (by decide)) fun hc3 => ?_
  refine C.aloadN S2 d_prog_89_method_4_15 16 rfl rfl rfl ?_
  refine C.getfield S2 (host := "") (Or.inl (w62 hw)) Via.refl d_prog_89_method_4_16 (S2.fld 0 rfl 0 rfl) 19 rfl fun T4 S4 => ?_
  refine C.iloadN S4 d_prog_89_method_4_19 20 rfl rfl ?_
  refine C.callIface S4 (S4.exa 1 rfl) (w121 hw) (w122 hw) (w123 hw) rfl (w124 hw) (w125 hw) (w126 hw) (w127 hw) (w79 hw) (w40 hw) (w128 hw) (by decide) (alGet hw hCS hcs hD hDA l mc b (2 : Int32) [(.ref v0), (.ref v1), .null, .null, .null, .null, .null, .null, .null, .null] (0 : Int32) v0 (by decide) rfl (by decide)) d_prog_89_method_4_20 25 rfl rfl pd10 [(.int (0 : Int32))] [] rfl rfl rfl [1, 3] rfl (by decide) rfl [] rfl (leD rfl) (leD rfl) (leD rfl) (leD rfl) ?_
  rintro T5 _ _ _ ⟨rfl, rfl, rfl⟩ hro5 S5
  replace S5 := S5.as (L' := [(r, O_RowsRead Z (.ref l) (.ref ln)), (l, O_ArrayList Z (.int mc) (.ref b) (.int (2 : Int32))), (ln, Ary Z .long [(.long q0), (.long q1), (.long (0 : Int64)), (.long (0 : Int64)), (.long (0 : Int64)), (.long (0 : Int64)), (.long (0 : Int64)), (.long (0 : Int64)), (.long (0 : Int64)), (.long (0 : Int64)), (.long (0 : Int64)), (.long (0 : Int64)), (.long (0 : Int64)), (.long (0 : Int64)), (.long (0 : Int64)), (.long (0 : Int64))]), (b, AryR Z "java/lang/Object" [(.ref v0), (.ref v1), .null, .null, .null, .null, .null, .null, .null, .null])]) (M' := []) (cells' := 0) (slots' := 0) rfl rfl rfl rfl
  show Go p e below _ (T5.setTop (mkF m 25 #[.val (.ref r), .val (.ref v0), .val (.int (0 : Int32))] [(.ref v0)]))
  refine C.aloadN S5 d_prog_89_method_4_25 26 rfl rfl rfl ?_
  refine C.acmp_eq S5 d_prog_89_method_4_26 rfl rfl 35 29 (by decide) (by decide) rfl (fun hc6 => ?_) fun hc6 => absurd rfl hc6
  refine C.iloadN S5 d_prog_89_method_4_35 36 rfl rfl ?_
  refine C.aloadN S5 d_prog_89_method_4_36 37 rfl rfl rfl ?_
  refine C.getfield S5 (host := "") (Or.inl (w62 hw)) Via.refl d_prog_89_method_4_37 (S5.fld 0 rfl 0 rfl) 40 rfl fun T7 S7 => ?_
  refine C.callIface S7 (S7.exa 1 rfl) (w72 hw) (w73 hw) (w74 hw) rfl (w75 hw) (w76 hw) (w77 hw) (w78 hw) (w79 hw) (w40 hw) (w80 hw) (by decide) (alSize hw hCS hcs hD hDA l mc (.ref b) (2 : Int32)) d_prog_89_method_4_40 45 rfl rfl pd11 [] [(.int (0 : Int32))] rfl rfl rfl [1] rfl (by decide) rfl [] rfl (leD rfl) (leD rfl) (leD rfl) (leD rfl) ?_
  rintro T8 _ _ _ ⟨rfl, rfl, rfl⟩ hro8 S8
  replace S8 := S8.as (L' := [(r, O_RowsRead Z (.ref l) (.ref ln)), (l, O_ArrayList Z (.int mc) (.ref b) (.int (2 : Int32))), (ln, Ary Z .long [(.long q0), (.long q1), (.long (0 : Int64)), (.long (0 : Int64)), (.long (0 : Int64)), (.long (0 : Int64)), (.long (0 : Int64)), (.long (0 : Int64)), (.long (0 : Int64)), (.long (0 : Int64)), (.long (0 : Int64)), (.long (0 : Int64)), (.long (0 : Int64)), (.long (0 : Int64)), (.long (0 : Int64)), (.long (0 : Int64))]), (b, AryR Z "java/lang/Object" [(.ref v0), (.ref v1), .null, .null, .null, .null, .null, .null, .null, .null])]) (M' := []) (cells' := 0) (slots' := 0) rfl rfl rfl rfl
  show Go p e below _ (T8.setTop (mkF m 45 #[.val (.ref r), .val (.ref v0), .val (.int (0 : Int32))] [(.int (2 : Int32)), (.int (0 : Int32))]))
  refine C.icmp_ne S8 d_prog_89_method_4_45 65 48 (by decide) (by decide) rfl (fun hc9 => ?_) fun hc9 => absurd hc9 (by decide)
  refine C.aloadN S8 d_prog_89_method_4_65 66 rfl rfl rfl ?_
  refine C.getfield S8 (host := "") (Or.inl (w65 hw)) Via.refl d_prog_89_method_4_66 (S8.fld 0 rfl 1 rfl) 69 rfl fun T10 S10 => ?_
  refine C.iloadN S10 d_prog_89_method_4_69 70 rfl rfl ?_
  refine C.laload S10 (S10.at 2 rfl) d_prog_89_method_4_70 71 rfl (by decide) 0 rfl rfl ?_
  exact C.retJ S10 d_prog_89_method_4_71 [0, 1, 2, 3] rfl (by decide) [] rfl fa0 ⟨rfl, rfl, rfl⟩ rfl (leD rfl) (leD rfl)
theorem d_prog_89_method_4_29 : decode prog_89_method_4_code 29 = .ok (.iinc 2 1, 3) := by decide +kernel
theorem d_prog_89_method_4_32 : decode prog_89_method_4_code 32 = .ok (.goto (-30), 3) := by decide +kernel
theorem ef_rrLine_2_1 {r : Addr} {v1 : Addr} (m : MethodId) : entryFrame m #[(.ref r), (.ref v1)] 3 = mkF m 0 #[.val (.ref r), .val (.ref v1), .unset] [] := by first | (simp [entryFrame, mkF, argsToLocals, Value.category]; done) | rfl
set_option maxRecDepth 65536 in
set_option maxHeartbeats 40000000 in
theorem rrLine_2_1 {lch : Launch} {Z : State} {a0 : Array Value} {cst : Int32} {dc : Addr} (hw : Hw a0 Z) (hCS : Sta Z Z.heap "java/lang/String" "COMPACT_STRINGS" "Z" (.int cst)) (hcs : ¬ cst = 0) (hD : Sta Z Z.heap "java/util/ArrayList" "DEFAULTCAPACITY_EMPTY_ELEMENTDATA" "[Ljava/lang/Object;" (.ref dc)) (hDA : ∃ c, Z.heap[dc]? = some c ∧ Ary Z (.object "java/lang/Object") [] c) (r : Addr) (l : Addr) (ln : Addr) (mc : Int32) (b : Addr) (v0 : Addr) (v1 : Addr) (q0 : Int64) (q1 : Int64) (hne0 : v0 ≠ v1) :
    Con lch Z (⟨"com/example/exdate/exdate/cli/RowsRead", "line", "(Ljava/lang/Object;)J"⟩ : MethodName) prog_89_method_4_code 3 (Option.some Jvm.ClassFile.FieldType.long) ({ frames := 3, cells := 0, slots := 0, locals := 40 } : Room) #[(.ref r), (.ref v1)] [(r, O_RowsRead Z (.ref l) (.ref ln)), (l, O_ArrayList Z (.int mc) (.ref b) (.int (2 : Int32))), (ln, Ary Z .long [(.long q0), (.long q1), (.long (0 : Int64)), (.long (0 : Int64)), (.long (0 : Int64)), (.long (0 : Int64)), (.long (0 : Int64)), (.long (0 : Int64)), (.long (0 : Int64)), (.long (0 : Int64)), (.long (0 : Int64)), (.long (0 : Int64)), (.long (0 : Int64)), (.long (0 : Int64)), (.long (0 : Int64)), (.long (0 : Int64))]), (b, AryR Z "java/lang/Object" [(.ref v0), (.ref v1), .null, .null, .null, .null, .null, .null, .null, .null])] []
      (fun rv L1 M1 => rv = some (.long q1) ∧ L1 = [(r, O_RowsRead Z (.ref l) (.ref ln)), (l, O_ArrayList Z (.int mc) (.ref b) (.int (2 : Int32))), (ln, Ary Z .long [(.long q0), (.long q1), (.long (0 : Int64)), (.long (0 : Int64)), (.long (0 : Int64)), (.long (0 : Int64)), (.long (0 : Int64)), (.long (0 : Int64)), (.long (0 : Int64)), (.long (0 : Int64)), (.long (0 : Int64)), (.long (0 : Int64)), (.long (0 : Int64)), (.long (0 : Int64)), (.long (0 : Int64)), (.long (0 : Int64))]), (b, AryR Z "java/lang/Object" [(.ref v0), (.ref v1), .null, .null, .null, .null, .null, .null, .null, .null])] ∧ M1 = []) := by
  refine Con.of_body (plainFor_of_name pn7) (fun m => ef_rrLine_2_1 m) ?_
  intro p e s m below meth c T0 h0 C S0
  refine C.iconst S0 d_prog_89_method_4_0 1 rfl (0 : Int32) rfl ?_
  refine C.istoreN S0 d_prog_89_method_4_1 2 rfl #[.val (.ref r), .val (.ref v1), .val (.int (0 : Int32))] rfl ?_
  refine C.iloadN S0 d_prog_89_method_4_2 3 rfl rfl ?_
  refine C.aloadN S0 d_prog_89_method_4_3 4 rfl rfl rfl ?_
  refine C.getfield S0 (host := "") (Or.inl (w62 hw)) Via.refl d_prog_89_method_4_4 (S0.fld 0 rfl 0 rfl) 7 rfl fun T1 S1 => ?_
  refine C.callIface S1 (S1.exa 1 rfl) (w72 hw) (w73 hw) (w74 hw) rfl (w75 hw) (w76 hw) (w77 hw) (w78 hw) (w79 hw) (w40 hw) (w80 hw) (by decide) (alSize hw hCS hcs hD hDA l mc (.ref b) (2 : Int32)) d_prog_89_method_4_7 12 rfl rfl pd11 [] [(.int (0 : Int32))] rfl rfl rfl [1] rfl (by decide) rfl [] rfl (leD rfl) (leD rfl) (leD rfl) (leD rfl) ?_
  rintro T2 _ _ _ ⟨rfl, rfl, rfl⟩ hro2 S2
  replace S2 := S2.as (L' := [(r, O_RowsRead Z (.ref l) (.ref ln)), (l, O_ArrayList Z (.int mc) (.ref b) (.int (2 : Int32))), (ln, Ary Z .long [(.long q0), (.long q1), (.long (0 : Int64)), (.long (0 : Int64)), (.long (0 : Int64)), (.long (0 : Int64)), (.long (0 : Int64)), (.long (0 : Int64)), (.long (0 : Int64)), (.long (0 : Int64)), (.long (0 : Int64)), (.long (0 : Int64)), (.long (0 : Int64)), (.long (0 : Int64)), (.long (0 : Int64)), (.long (0 : Int64))]), (b, AryR Z "java/lang/Object" [(.ref v0), (.ref v1), .null, .null, .null, .null, .null, .null, .null, .null])]) (M' := []) (cells' := 0) (slots' := 0) rfl rfl rfl rfl
  show Go p e below _ (T2.setTop (mkF m 12 #[.val (.ref r), .val (.ref v1), .val (.int (0 : Int32))] [(.int (2 : Int32)), (.int (0 : Int32))]))
  refine C.icmp_ge S2 d_prog_89_method_4_12 35 15 (by decide) (by decide) rfl (fun hc3 => absurd hc3 (by decide)) fun hc3 => ?_
  refine C.aloadN S2 d_prog_89_method_4_15 16 rfl rfl rfl ?_
  refine C.getfield S2 (host := "") (Or.inl (w62 hw)) Via.refl d_prog_89_method_4_16 (S2.fld 0 rfl 0 rfl) 19 rfl fun T4 S4 => ?_
  refine C.iloadN S4 d_prog_89_method_4_19 20 rfl rfl ?_
  refine C.callIface S4 (S4.exa 1 rfl) (w121 hw) (w122 hw) (w123 hw) rfl (w124 hw) (w125 hw) (w126 hw) (w127 hw) (w79 hw) (w40 hw) (w128 hw) (by decide) (alGet hw hCS hcs hD hDA l mc b (2 : Int32) [(.ref v0), (.ref v1), .null, .null, .null, .null, .null, .null, .null, .null] (0 : Int32) v0 (by decide) rfl (by decide)) d_prog_89_method_4_20 25 rfl rfl pd10 [(.int (0 : Int32))] [] rfl rfl rfl [1, 3] rfl (by decide) rfl [] rfl (leD rfl) (leD rfl) (leD rfl) (leD rfl) ?_
  rintro T5 _ _ _ ⟨rfl, rfl, rfl⟩ hro5 S5
  replace S5 := S5.as (L' := [(r, O_RowsRead Z (.ref l) (.ref ln)), (l, O_ArrayList Z (.int mc) (.ref b) (.int (2 : Int32))), (ln, Ary Z .long [(.long q0), (.long q1), (.long (0 : Int64)), (.long (0 : Int64)), (.long (0 : Int64)), (.long (0 : Int64)), (.long (0 : Int64)), (.long (0 : Int64)), (.long (0 : Int64)), (.long (0 : Int64)), (.long (0 : Int64)), (.long (0 : Int64)), (.long (0 : Int64)), (.long (0 : Int64)), (.long (0 : Int64)), (.long (0 : Int64))]), (b, AryR Z "java/lang/Object" [(.ref v0), (.ref v1), .null, .null, .null, .null, .null, .null, .null, .null])]) (M' := []) (cells' := 0) (slots' := 0) rfl rfl rfl rfl
  show Go p e below _ (T5.setTop (mkF m 25 #[.val (.ref r), .val (.ref v1), .val (.int (0 : Int32))] [(.ref v0)]))
  refine C.aloadN S5 d_prog_89_method_4_25 26 rfl rfl rfl ?_
  refine C.acmp_eq S5 d_prog_89_method_4_26 rfl rfl 35 29 (by decide) (by decide) rfl (fun hc6 => absurd (Value.ref.inj hc6) hne0) fun hc6 => ?_
  refine C.iinc S5 d_prog_89_method_4_29 32 rfl rfl (1 : Int32) (1 : Int32) rfl (by decide) #[.val (.ref r), .val (.ref v1), .val (.int (1 : Int32))] rfl ?_
  refine C.goto S5 d_prog_89_method_4_32 2 (by decide) (by decide) ?_
  refine C.iloadN S5 d_prog_89_method_4_2 3 rfl rfl ?_
  refine C.aloadN S5 d_prog_89_method_4_3 4 rfl rfl rfl ?_
  refine C.getfield S5 (host := "") (Or.inl (w62 hw)) Via.refl d_prog_89_method_4_4 (S5.fld 0 rfl 0 rfl) 7 rfl fun T7 S7 => ?_
  refine C.callIface S7 (S7.exa 1 rfl) (w72 hw) (w73 hw) (w74 hw) rfl (w75 hw) (w76 hw) (w77 hw) (w78 hw) (w79 hw) (w40 hw) (w80 hw) (by decide) (alSize hw hCS hcs hD hDA l mc (.ref b) (2 : Int32)) d_prog_89_method_4_7 12 rfl rfl pd11 [] [(.int (1 : Int32))] rfl rfl rfl [1] rfl (by decide) rfl [] rfl (leD rfl) (leD rfl) (leD rfl) (leD rfl) ?_
  rintro T8 _ _ _ ⟨rfl, rfl, rfl⟩ hro8 S8
  replace S8 := S8.as (L' := [(r, O_RowsRead Z (.ref l) (.ref ln)), (l, O_ArrayList Z (.int mc) (.ref b) (.int (2 : Int32))), (ln, Ary Z .long [(.long q0), (.long q1), (.long (0 : Int64)), (.long (0 : Int64)), (.long (0 : Int64)), (.long (0 : Int64)), (.long (0 : Int64)), (.long (0 : Int64)), (.long (0 : Int64)), (.long (0 : Int64)), (.long (0 : Int64)), (.long (0 : Int64)), (.long (0 : Int64)), (.long (0 : Int64)), (.long (0 : Int64)), (.long (0 : Int64))]), (b, AryR Z "java/lang/Object" [(.ref v0), (.ref v1), .null, .null, .null, .null, .null, .null, .null, .null])]) (M' := []) (cells' := 0) (slots' := 0) rfl rfl rfl rfl
  show Go p e below _ (T8.setTop (mkF m 12 #[.val (.ref r), .val (.ref v1), .val (.int (1 : Int32))] [(.int (2 : Int32)), (.int (1 : Int32))]))
  refine C.icmp_ge S8 d_prog_89_method_4_12 35 15 (by decide) (by decide) rfl (fun hc9 => absurd hc9 (by decide)) fun hc9 => ?_
  refine C.aloadN S8 d_prog_89_method_4_15 16 rfl rfl rfl ?_
  refine C.getfield S8 (host := "") (Or.inl (w62 hw)) Via.refl d_prog_89_method_4_16 (S8.fld 0 rfl 0 rfl) 19 rfl fun T10 S10 => ?_
  refine C.iloadN S10 d_prog_89_method_4_19 20 rfl rfl ?_
  refine C.callIface S10 (S10.exa 1 rfl) (w121 hw) (w122 hw) (w123 hw) rfl (w124 hw) (w125 hw) (w126 hw) (w127 hw) (w79 hw) (w40 hw) (w128 hw) (by decide) (alGet hw hCS hcs hD hDA l mc b (2 : Int32) [(.ref v0), (.ref v1), .null, .null, .null, .null, .null, .null, .null, .null] (1 : Int32) v1 (by decide) rfl (by decide)) d_prog_89_method_4_20 25 rfl rfl pd10 [(.int (1 : Int32))] [] rfl rfl rfl [1, 3] rfl (by decide) rfl [] rfl (leD rfl) (leD rfl) (leD rfl) (leD rfl) ?_
  rintro T11 _ _ _ ⟨rfl, rfl, rfl⟩ hro11 S11
  replace S11 := S11.as (L' := [(r, O_RowsRead Z (.ref l) (.ref ln)), (l, O_ArrayList Z (.int mc) (.ref b) (.int (2 : Int32))), (ln, Ary Z .long [(.long q0), (.long q1), (.long (0 : Int64)), (.long (0 : Int64)), (.long (0 : Int64)), (.long (0 : Int64)), (.long (0 : Int64)), (.long (0 : Int64)), (.long (0 : Int64)), (.long (0 : Int64)), (.long (0 : Int64)), (.long (0 : Int64)), (.long (0 : Int64)), (.long (0 : Int64)), (.long (0 : Int64)), (.long (0 : Int64))]), (b, AryR Z "java/lang/Object" [(.ref v0), (.ref v1), .null, .null, .null, .null, .null, .null, .null, .null])]) (M' := []) (cells' := 0) (slots' := 0) rfl rfl rfl rfl
  show Go p e below _ (T11.setTop (mkF m 25 #[.val (.ref r), .val (.ref v1), .val (.int (1 : Int32))] [(.ref v1)]))
  refine C.aloadN S11 d_prog_89_method_4_25 26 rfl rfl rfl ?_
  refine C.acmp_eq S11 d_prog_89_method_4_26 rfl rfl 35 29 (by decide) (by decide) rfl (fun hc12 => ?_) fun hc12 => absurd rfl hc12
  refine C.iloadN S11 d_prog_89_method_4_35 36 rfl rfl ?_
  refine C.aloadN S11 d_prog_89_method_4_36 37 rfl rfl rfl ?_
  refine C.getfield S11 (host := "") (Or.inl (w62 hw)) Via.refl d_prog_89_method_4_37 (S11.fld 0 rfl 0 rfl) 40 rfl fun T13 S13 => ?_
  refine C.callIface S13 (S13.exa 1 rfl) (w72 hw) (w73 hw) (w74 hw) rfl (w75 hw) (w76 hw) (w77 hw) (w78 hw) (w79 hw) (w40 hw) (w80 hw) (by decide) (alSize hw hCS hcs hD hDA l mc (.ref b) (2 : Int32)) d_prog_89_method_4_40 45 rfl rfl pd11 [] [(.int (1 : Int32))] rfl rfl rfl [1] rfl (by decide) rfl [] rfl (leD rfl) (leD rfl) (leD rfl) (leD rfl) ?_
  rintro T14 _ _ _ ⟨rfl, rfl, rfl⟩ hro14 S14
  replace S14 := S14.as (L' := [(r, O_RowsRead Z (.ref l) (.ref ln)), (l, O_ArrayList Z (.int mc) (.ref b) (.int (2 : Int32))), (ln, Ary Z .long [(.long q0), (.long q1), (.long (0 : Int64)), (.long (0 : Int64)), (.long (0 : Int64)), (.long (0 : Int64)), (.long (0 : Int64)), (.long (0 : Int64)), (.long (0 : Int64)), (.long (0 : Int64)), (.long (0 : Int64)), (.long (0 : Int64)), (.long (0 : Int64)), (.long (0 : Int64)), (.long (0 : Int64)), (.long (0 : Int64))]), (b, AryR Z "java/lang/Object" [(.ref v0), (.ref v1), .null, .null, .null, .null, .null, .null, .null, .null])]) (M' := []) (cells' := 0) (slots' := 0) rfl rfl rfl rfl
  show Go p e below _ (T14.setTop (mkF m 45 #[.val (.ref r), .val (.ref v1), .val (.int (1 : Int32))] [(.int (2 : Int32)), (.int (1 : Int32))]))
  refine C.icmp_ne S14 d_prog_89_method_4_45 65 48 (by decide) (by decide) rfl (fun hc15 => ?_) fun hc15 => absurd hc15 (by decide)
  refine C.aloadN S14 d_prog_89_method_4_65 66 rfl rfl rfl ?_
  refine C.getfield S14 (host := "") (Or.inl (w65 hw)) Via.refl d_prog_89_method_4_66 (S14.fld 0 rfl 1 rfl) 69 rfl fun T16 S16 => ?_
  refine C.iloadN S16 d_prog_89_method_4_69 70 rfl rfl ?_
  refine C.laload S16 (S16.at 2 rfl) d_prog_89_method_4_70 71 rfl (by decide) 1 rfl rfl ?_
  exact C.retJ S16 d_prog_89_method_4_71 [0, 1, 2, 3] rfl (by decide) [] rfl fa0 ⟨rfl, rfl, rfl⟩ rfl (leD rfl) (leD rfl)
theorem ef_rrLine_3_0 {r : Addr} {v0 : Addr} (m : MethodId) : entryFrame m #[(.ref r), (.ref v0)] 3 = mkF m 0 #[.val (.ref r), .val (.ref v0), .unset] [] := by first | (simp [entryFrame, mkF, argsToLocals, Value.category]; done) | rfl
set_option maxRecDepth 65536 in
set_option maxHeartbeats 40000000 in
theorem rrLine_3_0 {lch : Launch} {Z : State} {a0 : Array Value} {cst : Int32} {dc : Addr} (hw : Hw a0 Z) (hCS : Sta Z Z.heap "java/lang/String" "COMPACT_STRINGS" "Z" (.int cst)) (hcs : ¬ cst = 0) (hD : Sta Z Z.heap "java/util/ArrayList" "DEFAULTCAPACITY_EMPTY_ELEMENTDATA" "[Ljava/lang/Object;" (.ref dc)) (hDA : ∃ c, Z.heap[dc]? = some c ∧ Ary Z (.object "java/lang/Object") [] c) (r : Addr) (l : Addr) (ln : Addr) (mc : Int32) (b : Addr) (v0 : Addr) (v1 : Addr) (v2 : Addr) (q0 : Int64) (q1 : Int64) (q2 : Int64) :
    Con lch Z (⟨"com/example/exdate/exdate/cli/RowsRead", "line", "(Ljava/lang/Object;)J"⟩ : MethodName) prog_89_method_4_code 3 (Option.some Jvm.ClassFile.FieldType.long) ({ frames := 3, cells := 0, slots := 0, locals := 40 } : Room) #[(.ref r), (.ref v0)] [(r, O_RowsRead Z (.ref l) (.ref ln)), (l, O_ArrayList Z (.int mc) (.ref b) (.int (3 : Int32))), (ln, Ary Z .long [(.long q0), (.long q1), (.long q2), (.long (0 : Int64)), (.long (0 : Int64)), (.long (0 : Int64)), (.long (0 : Int64)), (.long (0 : Int64)), (.long (0 : Int64)), (.long (0 : Int64)), (.long (0 : Int64)), (.long (0 : Int64)), (.long (0 : Int64)), (.long (0 : Int64)), (.long (0 : Int64)), (.long (0 : Int64))]), (b, AryR Z "java/lang/Object" [(.ref v0), (.ref v1), (.ref v2), .null, .null, .null, .null, .null, .null, .null])] []
      (fun rv L1 M1 => rv = some (.long q0) ∧ L1 = [(r, O_RowsRead Z (.ref l) (.ref ln)), (l, O_ArrayList Z (.int mc) (.ref b) (.int (3 : Int32))), (ln, Ary Z .long [(.long q0), (.long q1), (.long q2), (.long (0 : Int64)), (.long (0 : Int64)), (.long (0 : Int64)), (.long (0 : Int64)), (.long (0 : Int64)), (.long (0 : Int64)), (.long (0 : Int64)), (.long (0 : Int64)), (.long (0 : Int64)), (.long (0 : Int64)), (.long (0 : Int64)), (.long (0 : Int64)), (.long (0 : Int64))]), (b, AryR Z "java/lang/Object" [(.ref v0), (.ref v1), (.ref v2), .null, .null, .null, .null, .null, .null, .null])] ∧ M1 = []) := by
  refine Con.of_body (plainFor_of_name pn7) (fun m => ef_rrLine_3_0 m) ?_
  intro p e s m below meth c T0 h0 C S0
  refine C.iconst S0 d_prog_89_method_4_0 1 rfl (0 : Int32) rfl ?_
  refine C.istoreN S0 d_prog_89_method_4_1 2 rfl #[.val (.ref r), .val (.ref v0), .val (.int (0 : Int32))] rfl ?_
  refine C.iloadN S0 d_prog_89_method_4_2 3 rfl rfl ?_
  refine C.aloadN S0 d_prog_89_method_4_3 4 rfl rfl rfl ?_
  refine C.getfield S0 (host := "") (Or.inl (w62 hw)) Via.refl d_prog_89_method_4_4 (S0.fld 0 rfl 0 rfl) 7 rfl fun T1 S1 => ?_
  refine C.callIface S1 (S1.exa 1 rfl) (w72 hw) (w73 hw) (w74 hw) rfl (w75 hw) (w76 hw) (w77 hw) (w78 hw) (w79 hw) (w40 hw) (w80 hw) (by decide) (alSize hw hCS hcs hD hDA l mc (.ref b) (3 : Int32)) d_prog_89_method_4_7 12 rfl rfl pd11 [] [(.int (0 : Int32))] rfl rfl rfl [1] rfl (by decide) rfl [] rfl (leD rfl) (leD rfl) (leD rfl) (leD rfl) ?_
  rintro T2 _ _ _ ⟨rfl, rfl, rfl⟩ hro2 S2
  replace S2 := S2.as (L' := [(r, O_RowsRead Z (.ref l) (.ref ln)), (l, O_ArrayList Z (.int mc) (.ref b) (.int (3 : Int32))), (ln, Ary Z .long [(.long q0), (.long q1), (.long q2), (.long (0 : Int64)), (.long (0 : Int64)), (.long (0 : Int64)), (.long (0 : Int64)), (.long (0 : Int64)), (.long (0 : Int64)), (.long (0 : Int64)), (.long (0 : Int64)), (.long (0 : Int64)), (.long (0 : Int64)), (.long (0 : Int64)), (.long (0 : Int64)), (.long (0 : Int64))]), (b, AryR Z "java/lang/Object" [(.ref v0), (.ref v1), (.ref v2), .null, .null, .null, .null, .null, .null, .null])]) (M' := []) (cells' := 0) (slots' := 0) rfl rfl rfl rfl
  show Go p e below _ (T2.setTop (mkF m 12 #[.val (.ref r), .val (.ref v0), .val (.int (0 : Int32))] [(.int (3 : Int32)), (.int (0 : Int32))]))
  refine C.icmp_ge S2 d_prog_89_method_4_12 35 15 (by decide) (by decide) rfl (fun hc3 => absurd hc3 (by decide)) fun hc3 => ?_
  refine C.aloadN S2 d_prog_89_method_4_15 16 rfl rfl rfl ?_
  refine C.getfield S2 (host := "") (Or.inl (w62 hw)) Via.refl d_prog_89_method_4_16 (S2.fld 0 rfl 0 rfl) 19 rfl fun T4 S4 => ?_
  refine C.iloadN S4 d_prog_89_method_4_19 20 rfl rfl ?_
  refine C.callIface S4 (S4.exa 1 rfl) (w121 hw) (w122 hw) (w123 hw) rfl (w124 hw) (w125 hw) (w126 hw) (w127 hw) (w79 hw) (w40 hw) (w128 hw) (by decide) (alGet hw hCS hcs hD hDA l mc b (3 : Int32) [(.ref v0), (.ref v1), (.ref v2), .null, .null, .null, .null, .null, .null, .null] (0 : Int32) v0 (by decide) rfl (by decide)) d_prog_89_method_4_20 25 rfl rfl pd10 [(.int (0 : Int32))] [] rfl rfl rfl [1, 3] rfl (by decide) rfl [] rfl (leD rfl) (leD rfl) (leD rfl) (leD rfl) ?_
  rintro T5 _ _ _ ⟨rfl, rfl, rfl⟩ hro5 S5
  replace S5 := S5.as (L' := [(r, O_RowsRead Z (.ref l) (.ref ln)), (l, O_ArrayList Z (.int mc) (.ref b) (.int (3 : Int32))), (ln, Ary Z .long [(.long q0), (.long q1), (.long q2), (.long (0 : Int64)), (.long (0 : Int64)), (.long (0 : Int64)), (.long (0 : Int64)), (.long (0 : Int64)), (.long (0 : Int64)), (.long (0 : Int64)), (.long (0 : Int64)), (.long (0 : Int64)), (.long (0 : Int64)), (.long (0 : Int64)), (.long (0 : Int64)), (.long (0 : Int64))]), (b, AryR Z "java/lang/Object" [(.ref v0), (.ref v1), (.ref v2), .null, .null, .null, .null, .null, .null, .null])]) (M' := []) (cells' := 0) (slots' := 0) rfl rfl rfl rfl
  show Go p e below _ (T5.setTop (mkF m 25 #[.val (.ref r), .val (.ref v0), .val (.int (0 : Int32))] [(.ref v0)]))
  refine C.aloadN S5 d_prog_89_method_4_25 26 rfl rfl rfl ?_
  refine C.acmp_eq S5 d_prog_89_method_4_26 rfl rfl 35 29 (by decide) (by decide) rfl (fun hc6 => ?_) fun hc6 => absurd rfl hc6
  refine C.iloadN S5 d_prog_89_method_4_35 36 rfl rfl ?_
  refine C.aloadN S5 d_prog_89_method_4_36 37 rfl rfl rfl ?_
  refine C.getfield S5 (host := "") (Or.inl (w62 hw)) Via.refl d_prog_89_method_4_37 (S5.fld 0 rfl 0 rfl) 40 rfl fun T7 S7 => ?_
  refine C.callIface S7 (S7.exa 1 rfl) (w72 hw) (w73 hw) (w74 hw) rfl (w75 hw) (w76 hw) (w77 hw) (w78 hw) (w79 hw) (w40 hw) (w80 hw) (by decide) (alSize hw hCS hcs hD hDA l mc (.ref b) (3 : Int32)) d_prog_89_method_4_40 45 rfl rfl pd11 [] [(.int (0 : Int32))] rfl rfl rfl [1] rfl (by decide) rfl [] rfl (leD rfl) (leD rfl) (leD rfl) (leD rfl) ?_
  rintro T8 _ _ _ ⟨rfl, rfl, rfl⟩ hro8 S8
  replace S8 := S8.as (L' := [(r, O_RowsRead Z (.ref l) (.ref ln)), (l, O_ArrayList Z (.int mc) (.ref b) (.int (3 : Int32))), (ln, Ary Z .long [(.long q0), (.long q1), (.long q2), (.long (0 : Int64)), (.long (0 : Int64)), (.long (0 : Int64)), (.long (0 : Int64)), (.long (0 : Int64)), (.long (0 : Int64)), (.long (0 : Int64)), (.long (0 : Int64)), (.long (0 : Int64)), (.long (0 : Int64)), (.long (0 : Int64)), (.long (0 : Int64)), (.long (0 : Int64))]), (b, AryR Z "java/lang/Object" [(.ref v0), (.ref v1), (.ref v2), .null, .null, .null, .null, .null, .null, .null])]) (M' := []) (cells' := 0) (slots' := 0) rfl rfl rfl rfl
  show Go p e below _ (T8.setTop (mkF m 45 #[.val (.ref r), .val (.ref v0), .val (.int (0 : Int32))] [(.int (3 : Int32)), (.int (0 : Int32))]))
  refine C.icmp_ne S8 d_prog_89_method_4_45 65 48 (by decide) (by decide) rfl (fun hc9 => ?_) fun hc9 => absurd hc9 (by decide)
  refine C.aloadN S8 d_prog_89_method_4_65 66 rfl rfl rfl ?_
  refine C.getfield S8 (host := "") (Or.inl (w65 hw)) Via.refl d_prog_89_method_4_66 (S8.fld 0 rfl 1 rfl) 69 rfl fun T10 S10 => ?_
  refine C.iloadN S10 d_prog_89_method_4_69 70 rfl rfl ?_
  refine C.laload S10 (S10.at 2 rfl) d_prog_89_method_4_70 71 rfl (by decide) 0 rfl rfl ?_
  exact C.retJ S10 d_prog_89_method_4_71 [0, 1, 2, 3] rfl (by decide) [] rfl fa0 ⟨rfl, rfl, rfl⟩ rfl (leD rfl) (leD rfl)
theorem ef_rrLine_3_1 {r : Addr} {v1 : Addr} (m : MethodId) : entryFrame m #[(.ref r), (.ref v1)] 3 = mkF m 0 #[.val (.ref r), .val (.ref v1), .unset] [] := by first | (simp [entryFrame, mkF, argsToLocals, Value.category]; done) | rfl
set_option maxRecDepth 65536 in
set_option maxHeartbeats 40000000 in
theorem rrLine_3_1 {lch : Launch} {Z : State} {a0 : Array Value} {cst : Int32} {dc : Addr} (hw : Hw a0 Z) (hCS : Sta Z Z.heap "java/lang/String" "COMPACT_STRINGS" "Z" (.int cst)) (hcs : ¬ cst = 0) (hD : Sta Z Z.heap "java/util/ArrayList" "DEFAULTCAPACITY_EMPTY_ELEMENTDATA" "[Ljava/lang/Object;" (.ref dc)) (hDA : ∃ c, Z.heap[dc]? = some c ∧ Ary Z (.object "java/lang/Object") [] c) (r : Addr) (l : Addr) (ln : Addr) (mc : Int32) (b : Addr) (v0 : Addr) (v1 : Addr) (v2 : Addr) (q0 : Int64) (q1 : Int64) (q2 : Int64) (hne0 : v0 ≠ v1) :
    Con lch Z (⟨"com/example/exdate/exdate/cli/RowsRead", "line", "(Ljava/lang/Object;)J"⟩ : MethodName) prog_89_method_4_code 3 (Option.some Jvm.ClassFile.FieldType.long) ({ frames := 3, cells := 0, slots := 0, locals := 40 } : Room) #[(.ref r), (.ref v1)] [(r, O_RowsRead Z (.ref l) (.ref ln)), (l, O_ArrayList Z (.int mc) (.ref b) (.int (3 : Int32))), (ln, Ary Z .long [(.long q0), (.long q1), (.long q2), (.long (0 : Int64)), (.long (0 : Int64)), (.long (0 : Int64)), (.long (0 : Int64)), (.long (0 : Int64)), (.long (0 : Int64)), (.long (0 : Int64)), (.long (0 : Int64)), (.long (0 : Int64)), (.long (0 : Int64)), (.long (0 : Int64)), (.long (0 : Int64)), (.long (0 : Int64))]), (b, AryR Z "java/lang/Object" [(.ref v0), (.ref v1), (.ref v2), .null, .null, .null, .null, .null, .null, .null])] []
      (fun rv L1 M1 => rv = some (.long q1) ∧ L1 = [(r, O_RowsRead Z (.ref l) (.ref ln)), (l, O_ArrayList Z (.int mc) (.ref b) (.int (3 : Int32))), (ln, Ary Z .long [(.long q0), (.long q1), (.long q2), (.long (0 : Int64)), (.long (0 : Int64)), (.long (0 : Int64)), (.long (0 : Int64)), (.long (0 : Int64)), (.long (0 : Int64)), (.long (0 : Int64)), (.long (0 : Int64)), (.long (0 : Int64)), (.long (0 : Int64)), (.long (0 : Int64)), (.long (0 : Int64)), (.long (0 : Int64))]), (b, AryR Z "java/lang/Object" [(.ref v0), (.ref v1), (.ref v2), .null, .null, .null, .null, .null, .null, .null])] ∧ M1 = []) := by
  refine Con.of_body (plainFor_of_name pn7) (fun m => ef_rrLine_3_1 m) ?_
  intro p e s m below meth c T0 h0 C S0
  refine C.iconst S0 d_prog_89_method_4_0 1 rfl (0 : Int32) rfl ?_
  refine C.istoreN S0 d_prog_89_method_4_1 2 rfl #[.val (.ref r), .val (.ref v1), .val (.int (0 : Int32))] rfl ?_
  refine C.iloadN S0 d_prog_89_method_4_2 3 rfl rfl ?_
  refine C.aloadN S0 d_prog_89_method_4_3 4 rfl rfl rfl ?_
  refine C.getfield S0 (host := "") (Or.inl (w62 hw)) Via.refl d_prog_89_method_4_4 (S0.fld 0 rfl 0 rfl) 7 rfl fun T1 S1 => ?_
  refine C.callIface S1 (S1.exa 1 rfl) (w72 hw) (w73 hw) (w74 hw) rfl (w75 hw) (w76 hw) (w77 hw) (w78 hw) (w79 hw) (w40 hw) (w80 hw) (by decide) (alSize hw hCS hcs hD hDA l mc (.ref b) (3 : Int32)) d_prog_89_method_4_7 12 rfl rfl pd11 [] [(.int (0 : Int32))] rfl rfl rfl [1] rfl (by decide) rfl [] rfl (leD rfl) (leD rfl) (leD rfl) (leD rfl) ?_
  rintro T2 _ _ _ ⟨rfl, rfl, rfl⟩ hro2 S2
  replace S2 := S2.as (L' := [(r, O_RowsRead Z (.ref l) (.ref ln)), (l, O_ArrayList Z (.int mc) (.ref b) (.int (3 : Int32))), (ln, Ary Z .long [(.long q0), (.long q1), (.long q2), (.long (0 : Int64)), (.long (0 : Int64)), (.long (0 : Int64)), (.long (0 : Int64)), (.long (0 : Int64)), (.long (0 : Int64)), (.long (0 : Int64)), (.long (0 : Int64)), (.long (0 : Int64)), (.long (0 : Int64)), (.long (0 : Int64)), (.long (0 : Int64)), (.long (0 : Int64))]), (b, AryR Z "java/lang/Object" [(.ref v0), (.ref v1), (.ref v2), .null, .null, .null, .null, .null, .null, .null])]) (M' := []) (cells' := 0) (slots' := 0) rfl rfl rfl rfl
  show Go p e below _ (T2.setTop (mkF m 12 #[.val (.ref r), .val (.ref v1), .val (.int (0 : Int32))] [(.int (3 : Int32)), (.int (0 : Int32))]))
  refine C.icmp_ge S2 d_prog_89_method_4_12 35 15 (by decide) (by decide) rfl (fun hc3 => absurd hc3 (by decide)) fun hc3 => ?_
  refine C.aloadN S2 d_prog_89_method_4_15 16 rfl rfl rfl ?_
  refine C.getfield S2 (host := "") (Or.inl (w62 hw)) Via.refl d_prog_89_method_4_16 (S2.fld 0 rfl 0 rfl) 19 rfl fun T4 S4 => ?_
  refine C.iloadN S4 d_prog_89_method_4_19 20 rfl rfl ?_
  refine C.callIface S4 (S4.exa 1 rfl) (w121 hw) (w122 hw) (w123 hw) rfl (w124 hw) (w125 hw) (w126 hw) (w127 hw) (w79 hw) (w40 hw) (w128 hw) (by decide) (alGet hw hCS hcs hD hDA l mc b (3 : Int32) [(.ref v0), (.ref v1), (.ref v2), .null, .null, .null, .null, .null, .null, .null] (0 : Int32) v0 (by decide) rfl (by decide)) d_prog_89_method_4_20 25 rfl rfl pd10 [(.int (0 : Int32))] [] rfl rfl rfl [1, 3] rfl (by decide) rfl [] rfl (leD rfl) (leD rfl) (leD rfl) (leD rfl) ?_
  rintro T5 _ _ _ ⟨rfl, rfl, rfl⟩ hro5 S5
  replace S5 := S5.as (L' := [(r, O_RowsRead Z (.ref l) (.ref ln)), (l, O_ArrayList Z (.int mc) (.ref b) (.int (3 : Int32))), (ln, Ary Z .long [(.long q0), (.long q1), (.long q2), (.long (0 : Int64)), (.long (0 : Int64)), (.long (0 : Int64)), (.long (0 : Int64)), (.long (0 : Int64)), (.long (0 : Int64)), (.long (0 : Int64)), (.long (0 : Int64)), (.long (0 : Int64)), (.long (0 : Int64)), (.long (0 : Int64)), (.long (0 : Int64)), (.long (0 : Int64))]), (b, AryR Z "java/lang/Object" [(.ref v0), (.ref v1), (.ref v2), .null, .null, .null, .null, .null, .null, .null])]) (M' := []) (cells' := 0) (slots' := 0) rfl rfl rfl rfl
  show Go p e below _ (T5.setTop (mkF m 25 #[.val (.ref r), .val (.ref v1), .val (.int (0 : Int32))] [(.ref v0)]))
  refine C.aloadN S5 d_prog_89_method_4_25 26 rfl rfl rfl ?_
  refine C.acmp_eq S5 d_prog_89_method_4_26 rfl rfl 35 29 (by decide) (by decide) rfl (fun hc6 => absurd (Value.ref.inj hc6) hne0) fun hc6 => ?_
  refine C.iinc S5 d_prog_89_method_4_29 32 rfl rfl (1 : Int32) (1 : Int32) rfl (by decide) #[.val (.ref r), .val (.ref v1), .val (.int (1 : Int32))] rfl ?_
  refine C.goto S5 d_prog_89_method_4_32 2 (by decide) (by decide) ?_
  refine C.iloadN S5 d_prog_89_method_4_2 3 rfl rfl ?_
  refine C.aloadN S5 d_prog_89_method_4_3 4 rfl rfl rfl ?_
  refine C.getfield S5 (host := "") (Or.inl (w62 hw)) Via.refl d_prog_89_method_4_4 (S5.fld 0 rfl 0 rfl) 7 rfl fun T7 S7 => ?_
  refine C.callIface S7 (S7.exa 1 rfl) (w72 hw) (w73 hw) (w74 hw) rfl (w75 hw) (w76 hw) (w77 hw) (w78 hw) (w79 hw) (w40 hw) (w80 hw) (by decide) (alSize hw hCS hcs hD hDA l mc (.ref b) (3 : Int32)) d_prog_89_method_4_7 12 rfl rfl pd11 [] [(.int (1 : Int32))] rfl rfl rfl [1] rfl (by decide) rfl [] rfl (leD rfl) (leD rfl) (leD rfl) (leD rfl) ?_
  rintro T8 _ _ _ ⟨rfl, rfl, rfl⟩ hro8 S8
  replace S8 := S8.as (L' := [(r, O_RowsRead Z (.ref l) (.ref ln)), (l, O_ArrayList Z (.int mc) (.ref b) (.int (3 : Int32))), (ln, Ary Z .long [(.long q0), (.long q1), (.long q2), (.long (0 : Int64)), (.long (0 : Int64)), (.long (0 : Int64)), (.long (0 : Int64)), (.long (0 : Int64)), (.long (0 : Int64)), (.long (0 : Int64)), (.long (0 : Int64)), (.long (0 : Int64)), (.long (0 : Int64)), (.long (0 : Int64)), (.long (0 : Int64)), (.long (0 : Int64))]), (b, AryR Z "java/lang/Object" [(.ref v0), (.ref v1), (.ref v2), .null, .null, .null, .null, .null, .null, .null])]) (M' := []) (cells' := 0) (slots' := 0) rfl rfl rfl rfl
  show Go p e below _ (T8.setTop (mkF m 12 #[.val (.ref r), .val (.ref v1), .val (.int (1 : Int32))] [(.int (3 : Int32)), (.int (1 : Int32))]))
  refine C.icmp_ge S8 d_prog_89_method_4_12 35 15 (by decide) (by decide) rfl (fun hc9 => absurd hc9 (by decide)) fun hc9 => ?_
  refine C.aloadN S8 d_prog_89_method_4_15 16 rfl rfl rfl ?_
  refine C.getfield S8 (host := "") (Or.inl (w62 hw)) Via.refl d_prog_89_method_4_16 (S8.fld 0 rfl 0 rfl) 19 rfl fun T10 S10 => ?_
  refine C.iloadN S10 d_prog_89_method_4_19 20 rfl rfl ?_
  refine C.callIface S10 (S10.exa 1 rfl) (w121 hw) (w122 hw) (w123 hw) rfl (w124 hw) (w125 hw) (w126 hw) (w127 hw) (w79 hw) (w40 hw) (w128 hw) (by decide) (alGet hw hCS hcs hD hDA l mc b (3 : Int32) [(.ref v0), (.ref v1), (.ref v2), .null, .null, .null, .null, .null, .null, .null] (1 : Int32) v1 (by decide) rfl (by decide)) d_prog_89_method_4_20 25 rfl rfl pd10 [(.int (1 : Int32))] [] rfl rfl rfl [1, 3] rfl (by decide) rfl [] rfl (leD rfl) (leD rfl) (leD rfl) (leD rfl) ?_
  rintro T11 _ _ _ ⟨rfl, rfl, rfl⟩ hro11 S11
  replace S11 := S11.as (L' := [(r, O_RowsRead Z (.ref l) (.ref ln)), (l, O_ArrayList Z (.int mc) (.ref b) (.int (3 : Int32))), (ln, Ary Z .long [(.long q0), (.long q1), (.long q2), (.long (0 : Int64)), (.long (0 : Int64)), (.long (0 : Int64)), (.long (0 : Int64)), (.long (0 : Int64)), (.long (0 : Int64)), (.long (0 : Int64)), (.long (0 : Int64)), (.long (0 : Int64)), (.long (0 : Int64)), (.long (0 : Int64)), (.long (0 : Int64)), (.long (0 : Int64))]), (b, AryR Z "java/lang/Object" [(.ref v0), (.ref v1), (.ref v2), .null, .null, .null, .null, .null, .null, .null])]) (M' := []) (cells' := 0) (slots' := 0) rfl rfl rfl rfl
  show Go p e below _ (T11.setTop (mkF m 25 #[.val (.ref r), .val (.ref v1), .val (.int (1 : Int32))] [(.ref v1)]))
  refine C.aloadN S11 d_prog_89_method_4_25 26 rfl rfl rfl ?_
  refine C.acmp_eq S11 d_prog_89_method_4_26 rfl rfl 35 29 (by decide) (by decide) rfl (fun hc12 => ?_) fun hc12 => absurd rfl hc12
  refine C.iloadN S11 d_prog_89_method_4_35 36 rfl rfl ?_
  refine C.aloadN S11 d_prog_89_method_4_36 37 rfl rfl rfl ?_
  refine C.getfield S11 (host := "") (Or.inl (w62 hw)) Via.refl d_prog_89_method_4_37 (S11.fld 0 rfl 0 rfl) 40 rfl fun T13 S13 => ?_
  refine C.callIface S13 (S13.exa 1 rfl) (w72 hw) (w73 hw) (w74 hw) rfl (w75 hw) (w76 hw) (w77 hw) (w78 hw) (w79 hw) (w40 hw) (w80 hw) (by decide) (alSize hw hCS hcs hD hDA l mc (.ref b) (3 : Int32)) d_prog_89_method_4_40 45 rfl rfl pd11 [] [(.int (1 : Int32))] rfl rfl rfl [1] rfl (by decide) rfl [] rfl (leD rfl) (leD rfl) (leD rfl) (leD rfl) ?_
  rintro T14 _ _ _ ⟨rfl, rfl, rfl⟩ hro14 S14
  replace S14 := S14.as (L' := [(r, O_RowsRead Z (.ref l) (.ref ln)), (l, O_ArrayList Z (.int mc) (.ref b) (.int (3 : Int32))), (ln, Ary Z .long [(.long q0), (.long q1), (.long q2), (.long (0 : Int64)), (.long (0 : Int64)), (.long (0 : Int64)), (.long (0 : Int64)), (.long (0 : Int64)), (.long (0 : Int64)), (.long (0 : Int64)), (.long (0 : Int64)), (.long (0 : Int64)), (.long (0 : Int64)), (.long (0 : Int64)), (.long (0 : Int64)), (.long (0 : Int64))]), (b, AryR Z "java/lang/Object" [(.ref v0), (.ref v1), (.ref v2), .null, .null, .null, .null, .null, .null, .null])]) (M' := []) (cells' := 0) (slots' := 0) rfl rfl rfl rfl
  show Go p e below _ (T14.setTop (mkF m 45 #[.val (.ref r), .val (.ref v1), .val (.int (1 : Int32))] [(.int (3 : Int32)), (.int (1 : Int32))]))
  refine C.icmp_ne S14 d_prog_89_method_4_45 65 48 (by decide) (by decide) rfl (fun hc15 => ?_) fun hc15 => absurd hc15 (by decide)
  refine C.aloadN S14 d_prog_89_method_4_65 66 rfl rfl rfl ?_
  refine C.getfield S14 (host := "") (Or.inl (w65 hw)) Via.refl d_prog_89_method_4_66 (S14.fld 0 rfl 1 rfl) 69 rfl fun T16 S16 => ?_
  refine C.iloadN S16 d_prog_89_method_4_69 70 rfl rfl ?_
  refine C.laload S16 (S16.at 2 rfl) d_prog_89_method_4_70 71 rfl (by decide) 1 rfl rfl ?_
  exact C.retJ S16 d_prog_89_method_4_71 [0, 1, 2, 3] rfl (by decide) [] rfl fa0 ⟨rfl, rfl, rfl⟩ rfl (leD rfl) (leD rfl)
theorem ef_rrLine_3_2 {r : Addr} {v2 : Addr} (m : MethodId) : entryFrame m #[(.ref r), (.ref v2)] 3 = mkF m 0 #[.val (.ref r), .val (.ref v2), .unset] [] := by first | (simp [entryFrame, mkF, argsToLocals, Value.category]; done) | rfl
set_option maxRecDepth 65536 in
set_option maxHeartbeats 40000000 in
theorem rrLine_3_2 {lch : Launch} {Z : State} {a0 : Array Value} {cst : Int32} {dc : Addr} (hw : Hw a0 Z) (hCS : Sta Z Z.heap "java/lang/String" "COMPACT_STRINGS" "Z" (.int cst)) (hcs : ¬ cst = 0) (hD : Sta Z Z.heap "java/util/ArrayList" "DEFAULTCAPACITY_EMPTY_ELEMENTDATA" "[Ljava/lang/Object;" (.ref dc)) (hDA : ∃ c, Z.heap[dc]? = some c ∧ Ary Z (.object "java/lang/Object") [] c) (r : Addr) (l : Addr) (ln : Addr) (mc : Int32) (b : Addr) (v0 : Addr) (v1 : Addr) (v2 : Addr) (q0 : Int64) (q1 : Int64) (q2 : Int64) (hne0 : v0 ≠ v2) (hne1 : v1 ≠ v2) :
    Con lch Z (⟨"com/example/exdate/exdate/cli/RowsRead", "line", "(Ljava/lang/Object;)J"⟩ : MethodName) prog_89_method_4_code 3 (Option.some Jvm.ClassFile.FieldType.long) ({ frames := 3, cells := 0, slots := 0, locals := 40 } : Room) #[(.ref r), (.ref v2)] [(r, O_RowsRead Z (.ref l) (.ref ln)), (l, O_ArrayList Z (.int mc) (.ref b) (.int (3 : Int32))), (ln, Ary Z .long [(.long q0), (.long q1), (.long q2), (.long (0 : Int64)), (.long (0 : Int64)), (.long (0 : Int64)), (.long (0 : Int64)), (.long (0 : Int64)), (.long (0 : Int64)), (.long (0 : Int64)), (.long (0 : Int64)), (.long (0 : Int64)), (.long (0 : Int64)), (.long (0 : Int64)), (.long (0 : Int64)), (.long (0 : Int64))]), (b, AryR Z "java/lang/Object" [(.ref v0), (.ref v1), (.ref v2), .null, .null, .null, .null, .null, .null, .null])] []
      (fun rv L1 M1 => rv = some (.long q2) ∧ L1 = [(r, O_RowsRead Z (.ref l) (.ref ln)), (l, O_ArrayList Z (.int mc) (.ref b) (.int (3 : Int32))), (ln, Ary Z .long [(.long q0), (.long q1), (.long q2), (.long (0 : Int64)), (.long (0 : Int64)), (.long (0 : Int64)), (.long (0 : Int64)), (.long (0 : Int64)), (.long (0 : Int64)), (.long (0 : Int64)), (.long (0 : Int64)), (.long (0 : Int64)), (.long (0 : Int64)), (.long (0 : Int64)), (.long (0 : Int64)), (.long (0 : Int64))]), (b, AryR Z "java/lang/Object" [(.ref v0), (.ref v1), (.ref v2), .null, .null, .null, .null, .null, .null, .null])] ∧ M1 = []) := by
  refine Con.of_body (plainFor_of_name pn7) (fun m => ef_rrLine_3_2 m) ?_
  intro p e s m below meth c T0 h0 C S0
  refine C.iconst S0 d_prog_89_method_4_0 1 rfl (0 : Int32) rfl ?_
  refine C.istoreN S0 d_prog_89_method_4_1 2 rfl #[.val (.ref r), .val (.ref v2), .val (.int (0 : Int32))] rfl ?_
  refine C.iloadN S0 d_prog_89_method_4_2 3 rfl rfl ?_
  refine C.aloadN S0 d_prog_89_method_4_3 4 rfl rfl rfl ?_
  refine C.getfield S0 (host := "") (Or.inl (w62 hw)) Via.refl d_prog_89_method_4_4 (S0.fld 0 rfl 0 rfl) 7 rfl fun T1 S1 => ?_
  refine C.callIface S1 (S1.exa 1 rfl) (w72 hw) (w73 hw) (w74 hw) rfl (w75 hw) (w76 hw) (w77 hw) (w78 hw) (w79 hw) (w40 hw) (w80 hw) (by decide) (alSize hw hCS hcs hD hDA l mc (.ref b) (3 : Int32)) d_prog_89_method_4_7 12 rfl rfl pd11 [] [(.int (0 : Int32))] rfl rfl rfl [1] rfl (by decide) rfl [] rfl (leD rfl) (leD rfl) (leD rfl) (leD rfl) ?_
  rintro T2 _ _ _ ⟨rfl, rfl, rfl⟩ hro2 S2
  replace S2 := S2.as (L' := [(r, O_RowsRead Z (.ref l) (.ref ln)), (l, O_ArrayList Z (.int mc) (.ref b) (.int (3 : Int32))), (ln, Ary Z .long [(.long q0), (.long q1), (.long q2), (.long (0 : Int64)), (.long (0 : Int64)), (.long (0 : Int64)), (.long (0 : Int64)), (.long (0 : Int64)), (.long (0 : Int64)), (.long (0 : Int64)), (.long (0 : Int64)), (.long (0 : Int64)), (.long (0 : Int64)), (.long (0 : Int64)), (.long (0 : Int64)), (.long (0 : Int64))]), (b, AryR Z "java/lang/Object" [(.ref v0), (.ref v1), (.ref v2), .null, .null, .null, .null, .null, .null, .null])]) (M' := []) (cells' := 0) (slots' := 0) rfl rfl rfl rfl
  show Go p e below _ (T2.setTop (mkF m 12 #[.val (.ref r), .val (.ref v2), .val (.int (0 : Int32))] [(.int (3 : Int32)), (.int (0 : Int32))]))
  refine C.icmp_ge S2 d_prog_89_method_4_12 35 15 (by decide) (by decide) rfl (fun hc3 => absurd hc3 (by decide)) fun hc3 => ?_
  refine C.aloadN S2 d_prog_89_method_4_15 16 rfl rfl rfl ?_
  refine C.getfield S2 (host := "") (Or.inl (w62 hw)) Via.refl d_prog_89_method_4_16 (S2.fld 0 rfl 0 rfl) 19 rfl fun T4 S4 => ?_
  refine C.iloadN S4 d_prog_89_method_4_19 20 rfl rfl ?_
  refine C.callIface S4 (S4.exa 1 rfl) (w121 hw) (w122 hw) (w123 hw) rfl (w124 hw) (w125 hw) (w126 hw) (w127 hw) (w79 hw) (w40 hw) (w128 hw) (by decide) (alGet hw hCS hcs hD hDA l mc b (3 : Int32) [(.ref v0), (.ref v1), (.ref v2), .null, .null, .null, .null, .null, .null, .null] (0 : Int32) v0 (by decide) rfl (by decide)) d_prog_89_method_4_20 25 rfl rfl pd10 [(.int (0 : Int32))] [] rfl rfl rfl [1, 3] rfl (by decide) rfl [] rfl (leD rfl) (leD rfl) (leD rfl) (leD rfl) ?_
  rintro T5 _ _ _ ⟨rfl, rfl, rfl⟩ hro5 S5
  replace S5 := S5.as (L' := [(r, O_RowsRead Z (.ref l) (.ref ln)), (l, O_ArrayList Z (.int mc) (.ref b) (.int (3 : Int32))), (ln, Ary Z .long [(.long q0), (.long q1), (.long q2), (.long (0 : Int64)), (.long (0 : Int64)), (.long (0 : Int64)), (.long (0 : Int64)), (.long (0 : Int64)), (.long (0 : Int64)), (.long (0 : Int64)), (.long (0 : Int64)), (.long (0 : Int64)), (.long (0 : Int64)), (.long (0 : Int64)), (.long (0 : Int64)), (.long (0 : Int64))]), (b, AryR Z "java/lang/Object" [(.ref v0), (.ref v1), (.ref v2), .null, .null, .null, .null, .null, .null, .null])]) (M' := []) (cells' := 0) (slots' := 0) rfl rfl rfl rfl
  show Go p e below _ (T5.setTop (mkF m 25 #[.val (.ref r), .val (.ref v2), .val (.int (0 : Int32))] [(.ref v0)]))
  refine C.aloadN S5 d_prog_89_method_4_25 26 rfl rfl rfl ?_
  refine C.acmp_eq S5 d_prog_89_method_4_26 rfl rfl 35 29 (by decide) (by decide) rfl (fun hc6 => absurd (Value.ref.inj hc6) hne0) fun hc6 => ?_
  refine C.iinc S5 d_prog_89_method_4_29 32 rfl rfl (1 : Int32) (1 : Int32) rfl (by decide) #[.val (.ref r), .val (.ref v2), .val (.int (1 : Int32))] rfl ?_
  refine C.goto S5 d_prog_89_method_4_32 2 (by decide) (by decide) ?_
  refine C.iloadN S5 d_prog_89_method_4_2 3 rfl rfl ?_
  refine C.aloadN S5 d_prog_89_method_4_3 4 rfl rfl rfl ?_
  refine C.getfield S5 (host := "") (Or.inl (w62 hw)) Via.refl d_prog_89_method_4_4 (S5.fld 0 rfl 0 rfl) 7 rfl fun T7 S7 => ?_
  refine C.callIface S7 (S7.exa 1 rfl) (w72 hw) (w73 hw) (w74 hw) rfl (w75 hw) (w76 hw) (w77 hw) (w78 hw) (w79 hw) (w40 hw) (w80 hw) (by decide) (alSize hw hCS hcs hD hDA l mc (.ref b) (3 : Int32)) d_prog_89_method_4_7 12 rfl rfl pd11 [] [(.int (1 : Int32))] rfl rfl rfl [1] rfl (by decide) rfl [] rfl (leD rfl) (leD rfl) (leD rfl) (leD rfl) ?_
  rintro T8 _ _ _ ⟨rfl, rfl, rfl⟩ hro8 S8
  replace S8 := S8.as (L' := [(r, O_RowsRead Z (.ref l) (.ref ln)), (l, O_ArrayList Z (.int mc) (.ref b) (.int (3 : Int32))), (ln, Ary Z .long [(.long q0), (.long q1), (.long q2), (.long (0 : Int64)), (.long (0 : Int64)), (.long (0 : Int64)), (.long (0 : Int64)), (.long (0 : Int64)), (.long (0 : Int64)), (.long (0 : Int64)), (.long (0 : Int64)), (.long (0 : Int64)), (.long (0 : Int64)), (.long (0 : Int64)), (.long (0 : Int64)), (.long (0 : Int64))]), (b, AryR Z "java/lang/Object" [(.ref v0), (.ref v1), (.ref v2), .null, .null, .null, .null, .null, .null, .null])]) (M' := []) (cells' := 0) (slots' := 0) rfl rfl rfl rfl
  show Go p e below _ (T8.setTop (mkF m 12 #[.val (.ref r), .val (.ref v2), .val (.int (1 : Int32))] [(.int (3 : Int32)), (.int (1 : Int32))]))
  refine C.icmp_ge S8 d_prog_89_method_4_12 35 15 (by decide) (by decide) rfl (fun hc9 => absurd hc9 (by decide)) fun hc9 => ?_
  refine C.aloadN S8 d_prog_89_method_4_15 16 rfl rfl rfl ?_
  refine C.getfield S8 (host := "") (Or.inl (w62 hw)) Via.refl d_prog_89_method_4_16 (S8.fld 0 rfl 0 rfl) 19 rfl fun T10 S10 => ?_
  refine C.iloadN S10 d_prog_89_method_4_19 20 rfl rfl ?_
  refine C.callIface S10 (S10.exa 1 rfl) (w121 hw) (w122 hw) (w123 hw) rfl (w124 hw) (w125 hw) (w126 hw) (w127 hw) (w79 hw) (w40 hw) (w128 hw) (by decide) (alGet hw hCS hcs hD hDA l mc b (3 : Int32) [(.ref v0), (.ref v1), (.ref v2), .null, .null, .null, .null, .null, .null, .null] (1 : Int32) v1 (by decide) rfl (by decide)) d_prog_89_method_4_20 25 rfl rfl pd10 [(.int (1 : Int32))] [] rfl rfl rfl [1, 3] rfl (by decide) rfl [] rfl (leD rfl) (leD rfl) (leD rfl) (leD rfl) ?_
  rintro T11 _ _ _ ⟨rfl, rfl, rfl⟩ hro11 S11
  replace S11 := S11.as (L' := [(r, O_RowsRead Z (.ref l) (.ref ln)), (l, O_ArrayList Z (.int mc) (.ref b) (.int (3 : Int32))), (ln, Ary Z .long [(.long q0), (.long q1), (.long q2), (.long (0 : Int64)), (.long (0 : Int64)), (.long (0 : Int64)), (.long (0 : Int64)), (.long (0 : Int64)), (.long (0 : Int64)), (.long (0 : Int64)), (.long (0 : Int64)), (.long (0 : Int64)), (.long (0 : Int64)), (.long (0 : Int64)), (.long (0 : Int64)), (.long (0 : Int64))]), (b, AryR Z "java/lang/Object" [(.ref v0), (.ref v1), (.ref v2), .null, .null, .null, .null, .null, .null, .null])]) (M' := []) (cells' := 0) (slots' := 0) rfl rfl rfl rfl
  show Go p e below _ (T11.setTop (mkF m 25 #[.val (.ref r), .val (.ref v2), .val (.int (1 : Int32))] [(.ref v1)]))
  refine C.aloadN S11 d_prog_89_method_4_25 26 rfl rfl rfl ?_
  refine C.acmp_eq S11 d_prog_89_method_4_26 rfl rfl 35 29 (by decide) (by decide) rfl (fun hc12 => absurd (Value.ref.inj hc12) hne1) fun hc12 => ?_
  refine C.iinc S11 d_prog_89_method_4_29 32 rfl rfl (2 : Int32) (1 : Int32) rfl (by decide) #[.val (.ref r), .val (.ref v2), .val (.int (2 : Int32))] rfl ?_
  refine C.goto S11 d_prog_89_method_4_32 2 (by decide) (by decide) ?_
  refine C.iloadN S11 d_prog_89_method_4_2 3 rfl rfl ?_
  refine C.aloadN S11 d_prog_89_method_4_3 4 rfl rfl rfl ?_
  refine C.getfield S11 (host := "") (Or.inl (w62 hw)) Via.refl d_prog_89_method_4_4 (S11.fld 0 rfl 0 rfl) 7 rfl fun T13 S13 => ?_
  refine C.callIface S13 (S13.exa 1 rfl) (w72 hw) (w73 hw) (w74 hw) rfl (w75 hw) (w76 hw) (w77 hw) (w78 hw) (w79 hw) (w40 hw) (w80 hw) (by decide) (alSize hw hCS hcs hD hDA l mc (.ref b) (3 : Int32)) d_prog_89_method_4_7 12 rfl rfl pd11 [] [(.int (2 : Int32))] rfl rfl rfl [1] rfl (by decide) rfl [] rfl (leD rfl) (leD rfl) (leD rfl) (leD rfl) ?_
  rintro T14 _ _ _ ⟨rfl, rfl, rfl⟩ hro14 S14
  replace S14 := S14.as (L' := [(r, O_RowsRead Z (.ref l) (.ref ln)), (l, O_ArrayList Z (.int mc) (.ref b) (.int (3 : Int32))), (ln, Ary Z .long [(.long q0), (.long q1), (.long q2), (.long (0 : Int64)), (.long (0 : Int64)), (.long (0 : Int64)), (.long (0 : Int64)), (.long (0 : Int64)), (.long (0 : Int64)), (.long (0 : Int64)), (.long (0 : Int64)), (.long (0 : Int64)), (.long (0 : Int64)), (.long (0 : Int64)), (.long (0 : Int64)), (.long (0 : Int64))]), (b, AryR Z "java/lang/Object" [(.ref v0), (.ref v1), (.ref v2), .null, .null, .null, .null, .null, .null, .null])]) (M' := []) (cells' := 0) (slots' := 0) rfl rfl rfl rfl
  show Go p e below _ (T14.setTop (mkF m 12 #[.val (.ref r), .val (.ref v2), .val (.int (2 : Int32))] [(.int (3 : Int32)), (.int (2 : Int32))]))
  refine C.icmp_ge S14 d_prog_89_method_4_12 35 15 (by decide) (by decide) rfl (fun hc15 => absurd hc15 (by decide)) fun hc15 => ?_
  refine C.aloadN S14 d_prog_89_method_4_15 16 rfl rfl rfl ?_
  refine C.getfield S14 (host := "") (Or.inl (w62 hw)) Via.refl d_prog_89_method_4_16 (S14.fld 0 rfl 0 rfl) 19 rfl fun T16 S16 => ?_
  refine C.iloadN S16 d_prog_89_method_4_19 20 rfl rfl ?_
  refine C.callIface S16 (S16.exa 1 rfl) (w121 hw) (w122 hw) (w123 hw) rfl (w124 hw) (w125 hw) (w126 hw) (w127 hw) (w79 hw) (w40 hw) (w128 hw) (by decide) (alGet hw hCS hcs hD hDA l mc b (3 : Int32) [(.ref v0), (.ref v1), (.ref v2), .null, .null, .null, .null, .null, .null, .null] (2 : Int32) v2 (by decide) rfl (by decide)) d_prog_89_method_4_20 25 rfl rfl pd10 [(.int (2 : Int32))] [] rfl rfl rfl [1, 3] rfl (by decide) rfl [] rfl (leD rfl) (leD rfl) (leD rfl) (leD rfl) ?_
  rintro T17 _ _ _ ⟨rfl, rfl, rfl⟩ hro17 S17
  replace S17 := S17.as (L' := [(r, O_RowsRead Z (.ref l) (.ref ln)), (l, O_ArrayList Z (.int mc) (.ref b) (.int (3 : Int32))), (ln, Ary Z .long [(.long q0), (.long q1), (.long q2), (.long (0 : Int64)), (.long (0 : Int64)), (.long (0 : Int64)), (.long (0 : Int64)), (.long (0 : Int64)), (.long (0 : Int64)), (.long (0 : Int64)), (.long (0 : Int64)), (.long (0 : Int64)), (.long (0 : Int64)), (.long (0 : Int64)), (.long (0 : Int64)), (.long (0 : Int64))]), (b, AryR Z "java/lang/Object" [(.ref v0), (.ref v1), (.ref v2), .null, .null, .null, .null, .null, .null, .null])]) (M' := []) (cells' := 0) (slots' := 0) rfl rfl rfl rfl
  show Go p e below _ (T17.setTop (mkF m 25 #[.val (.ref r), .val (.ref v2), .val (.int (2 : Int32))] [(.ref v2)]))
  refine C.aloadN S17 d_prog_89_method_4_25 26 rfl rfl rfl ?_
  refine C.acmp_eq S17 d_prog_89_method_4_26 rfl rfl 35 29 (by decide) (by decide) rfl (fun hc18 => ?_) fun hc18 => absurd rfl hc18
  refine C.iloadN S17 d_prog_89_method_4_35 36 rfl rfl ?_
  refine C.aloadN S17 d_prog_89_method_4_36 37 rfl rfl rfl ?_
  refine C.getfield S17 (host := "") (Or.inl (w62 hw)) Via.refl d_prog_89_method_4_37 (S17.fld 0 rfl 0 rfl) 40 rfl fun T19 S19 => ?_
  refine C.callIface S19 (S19.exa 1 rfl) (w72 hw) (w73 hw) (w74 hw) rfl (w75 hw) (w76 hw) (w77 hw) (w78 hw) (w79 hw) (w40 hw) (w80 hw) (by decide) (alSize hw hCS hcs hD hDA l mc (.ref b) (3 : Int32)) d_prog_89_method_4_40 45 rfl rfl pd11 [] [(.int (2 : Int32))] rfl rfl rfl [1] rfl (by decide) rfl [] rfl (leD rfl) (leD rfl) (leD rfl) (leD rfl) ?_
  rintro T20 _ _ _ ⟨rfl, rfl, rfl⟩ hro20 S20
  replace S20 := S20.as (L' := [(r, O_RowsRead Z (.ref l) (.ref ln)), (l, O_ArrayList Z (.int mc) (.ref b) (.int (3 : Int32))), (ln, Ary Z .long [(.long q0), (.long q1), (.long q2), (.long (0 : Int64)), (.long (0 : Int64)), (.long (0 : Int64)), (.long (0 : Int64)), (.long (0 : Int64)), (.long (0 : Int64)), (.long (0 : Int64)), (.long (0 : Int64)), (.long (0 : Int64)), (.long (0 : Int64)), (.long (0 : Int64)), (.long (0 : Int64)), (.long (0 : Int64))]), (b, AryR Z "java/lang/Object" [(.ref v0), (.ref v1), (.ref v2), .null, .null, .null, .null, .null, .null, .null])]) (M' := []) (cells' := 0) (slots' := 0) rfl rfl rfl rfl
  show Go p e below _ (T20.setTop (mkF m 45 #[.val (.ref r), .val (.ref v2), .val (.int (2 : Int32))] [(.int (3 : Int32)), (.int (2 : Int32))]))
  refine C.icmp_ne S20 d_prog_89_method_4_45 65 48 (by decide) (by decide) rfl (fun hc21 => ?_) fun hc21 => absurd hc21 (by decide)
  refine C.aloadN S20 d_prog_89_method_4_65 66 rfl rfl rfl ?_
  refine C.getfield S20 (host := "") (Or.inl (w65 hw)) Via.refl d_prog_89_method_4_66 (S20.fld 0 rfl 1 rfl) 69 rfl fun T22 S22 => ?_
  refine C.iloadN S22 d_prog_89_method_4_69 70 rfl rfl ?_
  refine C.laload S22 (S22.at 2 rfl) d_prog_89_method_4_70 71 rfl (by decide) 2 rfl rfl ?_
  exact C.retJ S22 d_prog_89_method_4_71 [0, 1, 2, 3] rfl (by decide) [] rfl fa0 ⟨rfl, rfl, rfl⟩ rfl (leD rfl) (leD rfl)
theorem own_nar {y : Int32} (h : ¬ y < 0 ∧ ¬ 255 < y) : nar .char y = y := by
  have q := c_i2c y
  show y.toUInt32.toUInt16.toUInt32.toInt32 = y
  rw [← Int32.toInt_inj]
  obtain ⟨h1, h2⟩ := h
  rw [Int32.lt_iff_toInt_lt] at h1 h2
  have e : (255 : Int32).toInt = 255 := rfl
  have e0 : (0 : Int32).toInt = 0 := rfl
  omega
theorem own_rem {x n : Int32} {d : Int} (hx : 0 ≤ x.toInt) (hn : n.toInt = d) (hd : 0 < d) : (x % n).toInt = x.toInt % d := (c_irem x n d hn).1 hx
theorem own_n (x : Int32) : 1 + (x &&& 3) % 3 = 1 ∨ 1 + (x &&& 3) % 3 = 2 ∨ 1 + (x &&& 3) % 3 = 3 := by
  rcases and3 x with h | h | h | h <;> rw [h] <;> decide
theorem own_p (x : Int32) : 0 ≤ (x &&& 2147483647).toInt := (c_and x 2147483647 (by decide)).1
theorem own_k1 (x : Int32) : (x &&& 2147483647) % 1 = 0 := by
  have h := own_rem (n := 1) (d := 1) (own_p x) rfl (by decide)
  apply Int32.toInt_inj.mp
  show _ = 0
  omega
theorem own_k2 (x : Int32) : (x &&& 2147483647) % 2 = 0 ∨ (x &&& 2147483647) % 2 = 1 := by
  have h := own_rem (n := 2) (d := 2) (own_p x) rfl (by decide)
  have q : ((x &&& 2147483647) % 2).toInt = (0 : Int32).toInt ∨ ((x &&& 2147483647) % 2).toInt = (1 : Int32).toInt := by
    show _ = 0 ∨ _ = 1
    omega
  exact q.imp Int32.toInt_inj.mp Int32.toInt_inj.mp
theorem own_k3 (x : Int32) : (x &&& 2147483647) % 3 = 0 ∨ (x &&& 2147483647) % 3 = 1 ∨ (x &&& 2147483647) % 3 = 2 := by
  have h := own_rem (n := 3) (d := 3) (own_p x) rfl (by decide)
  have q : ((x &&& 2147483647) % 3).toInt = (0 : Int32).toInt ∨ ((x &&& 2147483647) % 3).toInt = (1 : Int32).toInt ∨ ((x &&& 2147483647) % 3).toInt = (2 : Int32).toInt := by
    show _ = 0 ∨ _ = 1 ∨ _ = 2
    omega
  exact q.imp Int32.toInt_inj.mp (·.imp Int32.toInt_inj.mp Int32.toInt_inj.mp)
theorem layO_String {a0 : Array Value} {Z : State} (hw : Hw a0 Z) : LaidAll Z a0 "java/lang/String" [("java/lang/String", "coder", "B", .byte), ("java/lang/String", "value", "[B", (.array .byte))] := ⟨⟨Or.inr (w28 hw), by decide⟩, ⟨⟨Or.inr (w30 hw), by decide⟩, trivial⟩⟩
theorem pd13 : parseMethodDescriptor "([C)V" = some ⟨[(.array .char)], none⟩ := by decide +kernel
theorem layO_RowsRead {a0 : Array Value} {Z : State} (hw : Hw a0 Z) : LaidAll Z a0 "com/example/exdate/exdate/cli/RowsRead" [("com/example/exdate/exdate/cli/RowsRead", "made", "Ljava/util/List;", (.object "java/util/List")), ("com/example/exdate/exdate/cli/RowsRead", "lines", "[J", (.array .long))] := ⟨⟨Or.inr (w63 hw), by decide⟩, ⟨⟨Or.inl (w66 hw), by decide⟩, trivial⟩⟩
theorem pd14 : parseMethodDescriptor "(Ljava/lang/Object;J)V" = some ⟨[(.object "java/lang/Object"), .long], none⟩ := by decide +kernel
theorem pd15 : parseMethodDescriptor "(Ljava/lang/Object;)J" = some ⟨[(.object "java/lang/Object")], some .long⟩ := by decide +kernel
theorem pn8 : plainName "com/example/exdate/exdate/cli/RowsReadLinePinLaw" = true := by first | (simp [plainName, overriddenIn]; done) | decide +kernel
theorem own_c0 (x : Int64) : XT.cmpL x x = 0 := by
  show (if x < x then (1 : Int32) else if x = x then 0 else -1) = 0
  rw [if_neg (by rw [Int64.lt_iff_toInt_lt]; omega), if_pos rfl]
theorem own_empty {s : State} {args : Array Value} {t : Term} {dc : Addr} {cD : Cell} {ty : FieldType} (eD : t.eval args s none [] s = some (.ref dc)) (aD : Arr s s.heap dc cD ty) (h : (Jvm.Cond.eq (.length t) (.int 0)).value args s none s [] = some true) : ∃ c, s.heap[dc]? = some c ∧ Ary s ty [] c := by
  have hat : s.arrayAt? dc = some cD := Arr.fin (Vm.Alike.refl _) aD
  have hz : cD.slots.size = 0 := by
    by_cases q : cD.slots.size < 2 ^ 31
    · have e := len_f eD hat q
      have e2 := gotT (Cond.eq_ints e (Term.int_eval 0)) h
      have e3 : cD.slots.size.toInt32.toInt = (0 : Int32).toInt := by rw [e2]
      rw [len_toInt q] at e3
      have e4 : (cD.slots.size : Int) = 0 := e3
      omega
    · simp [Cond.value, Term.eval, eD, hat, q] at h
  exact ⟨cD, aD.1, aD.2, by rw [← List.length_eq_zero_iff, Array.length_toList]; exact hz, fun v hv => nomatch hv⟩
theorem ef_law {p0 : Int32} {p1 : Int32} {p2 : Int64} {p3 : Int64} {p4 : Int64} (m : MethodId) : entryFrame m #[(.int p0), (.int p1), (.long p2), (.long p3), (.long p4)] maxLocals = mkF m 0 #[.val (.int p0), .val (.int p1), .val (.long p2), .second, .val (.long p3), .second, .val (.long p4), .second, .unset, .unset, .unset, .unset, .unset, .unset, .unset, .unset, .unset, .unset, .unset, .unset, .unset, .unset, .unset] [] := by first | (simp [entryFrame, mkF, argsToLocals, Value.category, maxLocals]; done) | rfl
set_option maxRecDepth 65536 in
set_option maxHeartbeats 40000000 in
theorem law {lch : Launch} {Z : State} {a0 : Array Value} {cst : Int32} {dc : Addr} (hw : Hw a0 Z) (hCS : Sta Z Z.heap "java/lang/String" "COMPACT_STRINGS" "Z" (.int cst)) (hcs : ¬ cst = 0) (hD : Sta Z Z.heap "java/util/ArrayList" "DEFAULTCAPACITY_EMPTY_ELEMENTDATA" "[Ljava/lang/Object;" (.ref dc)) (hDA : ∃ c, Z.heap[dc]? = some c ∧ Ary Z (.object "java/lang/Object") [] c) (p0 : Int32) (p1 : Int32) (p2 : Int64) (p3 : Int64) (p4 : Int64) :
    Con lch Z x code maxLocals ret room_1 #[(.int p0), (.int p1), (.long p2), (.long p3), (.long p4)] [] []
      (fun rv L1 M1 => rv = some (.int (1 : Int32)) ∧ L1 = [] ∧ M1 = []) := by
  refine Con.of_body (plainFor_of_name pn8) (fun m => ef_law m) ?_
  intro p e s m below meth c T0 h0 C S0
  refine C.iloadN S0 at_0 1 rfl rfl ?_
  refine C.sipush S0 at_1 4 rfl (255 : Int32) rfl ?_
  refine C.iand S0 at_4 5 rfl (p0 &&& (255 : Int32)) rfl ?_
  refine C.i2c S0 at_5 6 rfl (p0 &&& (255 : Int32)) (i2c_mask _) ?_
  refine C.istore S0 at_6 8 rfl #[.val (.int p0), .val (.int p1), .val (.long p2), .second, .val (.long p3), .second, .val (.long p4), .second, .val (.int (p0 &&& (255 : Int32))), .unset, .unset, .unset, .unset, .unset, .unset, .unset, .unset, .unset, .unset, .unset, .unset, .unset, .unset] rfl ?_
  refine C.iloadN S0 at_8 9 rfl rfl ?_
  refine C.sipush S0 at_9 12 rfl (256 : Int32) rfl ?_
  refine C.iand S0 at_12 13 rfl (p0 &&& (256 : Int32)) rfl ?_
  refine Go.cut (α := Int32) (H := fun y1 => ¬ y1 < 0 ∧ ¬ 255 < y1) (f := fun y1 => T0.setTop (mkF m 30 #[.val (.int p0), .val (.int p1), .val (.long p2), .second, .val (.long p3), .second, .val (.long p4), .second, .val (.int (p0 &&& (255 : Int32))), .unset, .unset, .unset, .unset, .unset, .unset, .unset, .unset, .unset, .unset, .unset, .unset, .unset, .unset] [(.int y1)])) (fun y1 hy1 => ?_) fun key30 => ?_
  · show Go p e below _ (T0.setTop (mkF m 30 #[.val (.int p0), .val (.int p1), .val (.long p2), .second, .val (.long p3), .second, .val (.long p4), .second, .val (.int (p0 &&& (255 : Int32))), .unset, .unset, .unset, .unset, .unset, .unset, .unset, .unset, .unset, .unset, .unset, .unset, .unset, .unset] [(.int y1)]))
    refine C.istore S0 at_30 32 rfl #[.val (.int p0), .val (.int p1), .val (.long p2), .second, .val (.long p3), .second, .val (.long p4), .second, .val (.int (p0 &&& (255 : Int32))), .val (.int y1), .unset, .unset, .unset, .unset, .unset, .unset, .unset, .unset, .unset, .unset, .unset, .unset, .unset] rfl ?_
    refine C.iloadN S0 at_32 33 rfl rfl ?_
    refine C.ldcInt S0 (w0 hw) at_33 35 rfl ?_
    refine C.iand S0 at_35 36 rfl (p0 &&& (131072 : Int32)) rfl ?_
    refine Go.cut (α := Int32) (H := fun y2 => ¬ y2 < 0 ∧ ¬ 255 < y2) (f := fun y2 => T0.setTop (mkF m 53 #[.val (.int p0), .val (.int p1), .val (.long p2), .second, .val (.long p3), .second, .val (.long p4), .second, .val (.int (p0 &&& (255 : Int32))), .val (.int y1), .unset, .unset, .unset, .unset, .unset, .unset, .unset, .unset, .unset, .unset, .unset, .unset, .unset] [(.int y2)])) (fun y2 hy2 => ?_) fun key53 => ?_
    · show Go p e below _ (T0.setTop (mkF m 53 #[.val (.int p0), .val (.int p1), .val (.long p2), .second, .val (.long p3), .second, .val (.long p4), .second, .val (.int (p0 &&& (255 : Int32))), .val (.int y1), .unset, .unset, .unset, .unset, .unset, .unset, .unset, .unset, .unset, .unset, .unset, .unset, .unset] [(.int y2)]))
      refine C.istore S0 at_53 55 rfl #[.val (.int p0), .val (.int p1), .val (.long p2), .second, .val (.long p3), .second, .val (.long p4), .second, .val (.int (p0 &&& (255 : Int32))), .val (.int y1), .val (.int y2), .unset, .unset, .unset, .unset, .unset, .unset, .unset, .unset, .unset, .unset, .unset, .unset] rfl ?_
      refine C.iconst S0 at_55 56 rfl (1 : Int32) rfl ?_
      refine C.newarray (aty := .char) S0 (w1 hw) at_56 58 rfl (by decide) 1 rfl 1 (leD rfl) (by decide) (leD rfl) (leD rfl) fun T1 b1 S1 => ?_
      replace S1 := S1.as (L' := [(b1, Ary Z .char [(.int (0 : Int32))])]) (M' := []) (cells' := 1) (slots' := 1) rfl rfl rfl rfl
      refine C.dup S1 at_58 59 rfl rfl ?_
      refine C.iconst S1 at_59 60 rfl (0 : Int32) rfl ?_
      refine C.iload S1 at_60 62 rfl rfl ?_
      refine C.castore S1 0 rfl at_62 63 rfl (by decide) 0 rfl (leD rfl) (p0 &&& (255 : Int32)) (i2c_mask _) fun T2 S2 => ?_
      replace S2 := S2.as (L' := [(b1, Ary Z .char [(.int (p0 &&& (255 : Int32)))])]) (M' := []) (cells' := 1) (slots' := 1) rfl rfl rfl rfl
      refine C.astore S2 at_63 65 rfl rfl #[.val (.int p0), .val (.int p1), .val (.long p2), .second, .val (.long p3), .second, .val (.long p4), .second, .val (.int (p0 &&& (255 : Int32))), .val (.int y1), .val (.int y2), .val (.ref b1), .unset, .unset, .unset, .unset, .unset, .unset, .unset, .unset, .unset, .unset, .unset] rfl ?_
      refine C.iconst S2 at_65 66 rfl (1 : Int32) rfl ?_
      refine C.newarray (aty := .char) S2 (w1 hw) at_66 68 rfl (by decide) 1 rfl 1 (leD rfl) (by decide) (leD rfl) (leD rfl) fun T3 b3 S3 => ?_
      replace S3 := S3.as (L' := [(b1, Ary Z .char [(.int (p0 &&& (255 : Int32)))]), (b3, Ary Z .char [(.int (0 : Int32))])]) (M' := []) (cells' := 2) (slots' := 2) rfl rfl rfl rfl
      refine C.dup S3 at_68 69 rfl rfl ?_
      refine C.iconst S3 at_69 70 rfl (0 : Int32) rfl ?_
      refine C.iload S3 at_70 72 rfl rfl ?_
      refine C.castore S3 1 rfl at_72 73 rfl (by decide) 0 rfl (leD rfl) y1 (own_nar hy1) fun T4 S4 => ?_
      replace S4 := S4.as (L' := [(b1, Ary Z .char [(.int (p0 &&& (255 : Int32)))]), (b3, Ary Z .char [(.int y1)])]) (M' := []) (cells' := 2) (slots' := 2) rfl rfl rfl rfl
      refine C.astore S4 at_73 75 rfl rfl #[.val (.int p0), .val (.int p1), .val (.long p2), .second, .val (.long p3), .second, .val (.long p4), .second, .val (.int (p0 &&& (255 : Int32))), .val (.int y1), .val (.int y2), .val (.ref b1), .val (.ref b3), .unset, .unset, .unset, .unset, .unset, .unset, .unset, .unset, .unset, .unset] rfl ?_
      refine C.iconst S4 at_75 76 rfl (1 : Int32) rfl ?_
      refine C.newarray (aty := .char) S4 (w1 hw) at_76 78 rfl (by decide) 1 rfl 1 (leD rfl) (by decide) (leD rfl) (leD rfl) fun T5 b5 S5 => ?_
      replace S5 := S5.as (L' := [(b1, Ary Z .char [(.int (p0 &&& (255 : Int32)))]), (b3, Ary Z .char [(.int y1)]), (b5, Ary Z .char [(.int (0 : Int32))])]) (M' := []) (cells' := 3) (slots' := 3) rfl rfl rfl rfl
      refine C.dup S5 at_78 79 rfl rfl ?_
      refine C.iconst S5 at_79 80 rfl (0 : Int32) rfl ?_
      refine C.iload S5 at_80 82 rfl rfl ?_
      refine C.castore S5 2 rfl at_82 83 rfl (by decide) 0 rfl (leD rfl) y2 (own_nar hy2) fun T6 S6 => ?_
      replace S6 := S6.as (L' := [(b1, Ary Z .char [(.int (p0 &&& (255 : Int32)))]), (b3, Ary Z .char [(.int y1)]), (b5, Ary Z .char [(.int y2)])]) (M' := []) (cells' := 3) (slots' := 3) rfl rfl rfl rfl
      refine C.astore S6 at_83 85 rfl rfl #[.val (.int p0), .val (.int p1), .val (.long p2), .second, .val (.long p3), .second, .val (.long p4), .second, .val (.int (p0 &&& (255 : Int32))), .val (.int y1), .val (.int y2), .val (.ref b1), .val (.ref b3), .val (.ref b5), .unset, .unset, .unset, .unset, .unset, .unset, .unset, .unset, .unset] rfl ?_
      refine C.new S6 (w2 hw) (w3 hw) (w4 hw) at_85 (layO_String hw) (by decide) 88 rfl (leD rfl) (leD rfl) fun T7 b7 S7 => ?_
      replace S7 := S7.as (L' := [(b1, Ary Z .char [(.int (p0 &&& (255 : Int32)))]), (b3, Ary Z .char [(.int y1)]), (b5, Ary Z .char [(.int y2)]), (b7, O_String Z (.int (0 : Int32)) .null)]) (M' := []) (cells' := 4) (slots' := 7) rfl rfl rfl rfl
      refine C.dup S7 at_88 89 rfl rfl ?_
      refine C.aload S7 at_89 91 rfl rfl rfl ?_
      refine C.callSpecial (a := b7) S7 rfl (w5 hw) (w6 hw) (w4 hw) (w7 hw) (by decide) (strInit hw hCS hcs hD hDA b7 b1 [(p0 &&& (255 : Int32))] ⟨faS (byte255 _) fa0, leD rfl⟩ (leD rfl) (leD rfl)) at_91 94 rfl rfl pd13 [(.ref b1)] [(.ref b7)] rfl rfl rfl [3, 0] rfl (by decide) rfl [] rfl (leD rfl) (leD rfl) (leD rfl) (leD rfl) ?_
      rintro T8 _ _ _ ⟨b9, rfl, rfl, rfl⟩ hro8 S8
      replace S8 := S8.as (L' := [(b1, Ary Z .char [(.int (p0 &&& (255 : Int32)))]), (b3, Ary Z .char [(.int y1)]), (b5, Ary Z .char [(.int y2)]), (b7, O_String Z (.int (0 : Int32)) (.ref b9)), (b9, Ary Z .byte [(.int (p0 &&& (255 : Int32)).toInt8.toInt32)])]) (M' := []) (cells' := 5) (slots' := 11) rfl rfl rfl rfl
      show Go p e below _ (T8.setTop (mkF m 94 #[.val (.int p0), .val (.int p1), .val (.long p2), .second, .val (.long p3), .second, .val (.long p4), .second, .val (.int (p0 &&& (255 : Int32))), .val (.int y1), .val (.int y2), .val (.ref b1), .val (.ref b3), .val (.ref b5), .unset, .unset, .unset, .unset, .unset, .unset, .unset, .unset, .unset] [(.ref b7)]))
      refine C.astore S8 at_94 96 rfl rfl #[.val (.int p0), .val (.int p1), .val (.long p2), .second, .val (.long p3), .second, .val (.long p4), .second, .val (.int (p0 &&& (255 : Int32))), .val (.int y1), .val (.int y2), .val (.ref b1), .val (.ref b3), .val (.ref b5), .val (.ref b7), .unset, .unset, .unset, .unset, .unset, .unset, .unset, .unset] rfl ?_
      refine C.new S8 (w2 hw) (w3 hw) (w4 hw) at_96 (layO_String hw) (by decide) 99 rfl (leD rfl) (leD rfl) fun T10 b10 S10 => ?_
      replace S10 := S10.as (L' := [(b1, Ary Z .char [(.int (p0 &&& (255 : Int32)))]), (b3, Ary Z .char [(.int y1)]), (b5, Ary Z .char [(.int y2)]), (b7, O_String Z (.int (0 : Int32)) (.ref b9)), (b9, Ary Z .byte [(.int (p0 &&& (255 : Int32)).toInt8.toInt32)]), (b10, O_String Z (.int (0 : Int32)) .null)]) (M' := []) (cells' := 6) (slots' := 15) rfl rfl rfl rfl
      refine C.dup S10 at_99 100 rfl rfl ?_
      refine C.aload S10 at_100 102 rfl rfl rfl ?_
      refine C.callSpecial (a := b10) S10 rfl (w5 hw) (w6 hw) (w4 hw) (w7 hw) (by decide) (strInit hw hCS hcs hD hDA b10 b3 [y1] ⟨faS hy1 fa0, leD rfl⟩ (leD rfl) (leD rfl)) at_102 105 rfl rfl pd13 [(.ref b3)] [(.ref b10)] rfl rfl rfl [5, 1] rfl (by decide) rfl [] rfl (leD rfl) (leD rfl) (leD rfl) (leD rfl) ?_
      rintro T11 _ _ _ ⟨b12, rfl, rfl, rfl⟩ hro11 S11
      replace S11 := S11.as (L' := [(b1, Ary Z .char [(.int (p0 &&& (255 : Int32)))]), (b3, Ary Z .char [(.int y1)]), (b5, Ary Z .char [(.int y2)]), (b7, O_String Z (.int (0 : Int32)) (.ref b9)), (b9, Ary Z .byte [(.int (p0 &&& (255 : Int32)).toInt8.toInt32)]), (b10, O_String Z (.int (0 : Int32)) (.ref b12)), (b12, Ary Z .byte [(.int y1.toInt8.toInt32)])]) (M' := []) (cells' := 7) (slots' := 19) rfl rfl rfl rfl
      show Go p e below _ (T11.setTop (mkF m 105 #[.val (.int p0), .val (.int p1), .val (.long p2), .second, .val (.long p3), .second, .val (.long p4), .second, .val (.int (p0 &&& (255 : Int32))), .val (.int y1), .val (.int y2), .val (.ref b1), .val (.ref b3), .val (.ref b5), .val (.ref b7), .unset, .unset, .unset, .unset, .unset, .unset, .unset, .unset] [(.ref b10)]))
      refine C.astore S11 at_105 107 rfl rfl #[.val (.int p0), .val (.int p1), .val (.long p2), .second, .val (.long p3), .second, .val (.long p4), .second, .val (.int (p0 &&& (255 : Int32))), .val (.int y1), .val (.int y2), .val (.ref b1), .val (.ref b3), .val (.ref b5), .val (.ref b7), .val (.ref b10), .unset, .unset, .unset, .unset, .unset, .unset, .unset] rfl ?_
      refine C.new S11 (w2 hw) (w3 hw) (w4 hw) at_107 (layO_String hw) (by decide) 110 rfl (leD rfl) (leD rfl) fun T13 b13 S13 => ?_
      replace S13 := S13.as (L' := [(b1, Ary Z .char [(.int (p0 &&& (255 : Int32)))]), (b3, Ary Z .char [(.int y1)]), (b5, Ary Z .char [(.int y2)]), (b7, O_String Z (.int (0 : Int32)) (.ref b9)), (b9, Ary Z .byte [(.int (p0 &&& (255 : Int32)).toInt8.toInt32)]), (b10, O_String Z (.int (0 : Int32)) (.ref b12)), (b12, Ary Z .byte [(.int y1.toInt8.toInt32)]), (b13, O_String Z (.int (0 : Int32)) .null)]) (M' := []) (cells' := 8) (slots' := 23) rfl rfl rfl rfl
      refine C.dup S13 at_110 111 rfl rfl ?_
      refine C.aload S13 at_111 113 rfl rfl rfl ?_
      refine C.callSpecial (a := b13) S13 rfl (w5 hw) (w6 hw) (w4 hw) (w7 hw) (by decide) (strInit hw hCS hcs hD hDA b13 b5 [y2] ⟨faS hy2 fa0, leD rfl⟩ (leD rfl) (leD rfl)) at_113 116 rfl rfl pd13 [(.ref b5)] [(.ref b13)] rfl rfl rfl [7, 2] rfl (by decide) rfl [] rfl (leD rfl) (leD rfl) (leD rfl) (leD rfl) ?_
      rintro T14 _ _ _ ⟨b15, rfl, rfl, rfl⟩ hro14 S14
      replace S14 := S14.as (L' := [(b1, Ary Z .char [(.int (p0 &&& (255 : Int32)))]), (b3, Ary Z .char [(.int y1)]), (b5, Ary Z .char [(.int y2)]), (b7, O_String Z (.int (0 : Int32)) (.ref b9)), (b9, Ary Z .byte [(.int (p0 &&& (255 : Int32)).toInt8.toInt32)]), (b10, O_String Z (.int (0 : Int32)) (.ref b12)), (b12, Ary Z .byte [(.int y1.toInt8.toInt32)]), (b13, O_String Z (.int (0 : Int32)) (.ref b15)), (b15, Ary Z .byte [(.int y2.toInt8.toInt32)])]) (M' := []) (cells' := 9) (slots' := 27) rfl rfl rfl rfl
      show Go p e below _ (T14.setTop (mkF m 116 #[.val (.int p0), .val (.int p1), .val (.long p2), .second, .val (.long p3), .second, .val (.long p4), .second, .val (.int (p0 &&& (255 : Int32))), .val (.int y1), .val (.int y2), .val (.ref b1), .val (.ref b3), .val (.ref b5), .val (.ref b7), .val (.ref b10), .unset, .unset, .unset, .unset, .unset, .unset, .unset] [(.ref b13)]))
      refine C.astore S14 at_116 118 rfl rfl #[.val (.int p0), .val (.int p1), .val (.long p2), .second, .val (.long p3), .second, .val (.long p4), .second, .val (.int (p0 &&& (255 : Int32))), .val (.int y1), .val (.int y2), .val (.ref b1), .val (.ref b3), .val (.ref b5), .val (.ref b7), .val (.ref b10), .val (.ref b13), .unset, .unset, .unset, .unset, .unset, .unset] rfl ?_
      rcases own_n p1 with hn | hn | hn
      · refine C.iconst S14 at_118 119 rfl (1 : Int32) rfl ?_
        refine C.iloadN S14 at_119 120 rfl rfl ?_
        refine C.iconst S14 at_120 121 rfl (3 : Int32) rfl ?_
        refine C.iand S14 at_121 122 rfl (p1 &&& (3 : Int32)) rfl ?_
        refine C.iconst S14 at_122 123 rfl (3 : Int32) rfl ?_
        refine C.irem S14 at_123 124 rfl (by decide) ((p1 &&& (3 : Int32)) % (3 : Int32)) rfl ?_
        refine C.iadd S14 at_124 125 rfl (1 : Int32) hn ?_
        refine C.istore S14 at_125 127 rfl #[.val (.int p0), .val (.int p1), .val (.long p2), .second, .val (.long p3), .second, .val (.long p4), .second, .val (.int (p0 &&& (255 : Int32))), .val (.int y1), .val (.int y2), .val (.ref b1), .val (.ref b3), .val (.ref b5), .val (.ref b7), .val (.ref b10), .val (.ref b13), .val (.int (1 : Int32)), .unset, .unset, .unset, .unset, .unset] rfl ?_
        refine C.new S14 (w31 hw) (w32 hw) (w33 hw) at_127 (layO_RowsRead hw) (by decide) 130 rfl (leD rfl) (leD rfl) fun T16 b16 S16 => ?_
        replace S16 := S16.as (L' := [(b1, Ary Z .char [(.int (p0 &&& (255 : Int32)))]), (b3, Ary Z .char [(.int y1)]), (b5, Ary Z .char [(.int y2)]), (b7, O_String Z (.int (0 : Int32)) (.ref b9)), (b9, Ary Z .byte [(.int (p0 &&& (255 : Int32)).toInt8.toInt32)]), (b10, O_String Z (.int (0 : Int32)) (.ref b12)), (b12, Ary Z .byte [(.int y1.toInt8.toInt32)]), (b13, O_String Z (.int (0 : Int32)) (.ref b15)), (b15, Ary Z .byte [(.int y2.toInt8.toInt32)]), (b16, O_RowsRead Z .null .null)]) (M' := []) (cells' := 10) (slots' := 29) rfl rfl rfl rfl
        refine C.dup S16 at_130 131 rfl rfl ?_
        refine C.callSpecial (a := b16) S16 rfl (w34 hw) (w35 hw) (w33 hw) (w36 hw) (by decide) (rrInit hw hCS hcs hD hDA b16) at_131 134 rfl rfl pd4 [] [(.ref b16)] rfl rfl rfl [9] rfl (by decide) rfl [] rfl (leD rfl) (leD rfl) (leD rfl) (leD rfl) ?_
        rintro T17 _ _ _ ⟨l18, ln19, rfl, rfl, rfl⟩ hro17 S17
        replace S17 := S17.as (L' := [(b1, Ary Z .char [(.int (p0 &&& (255 : Int32)))]), (b3, Ary Z .char [(.int y1)]), (b5, Ary Z .char [(.int y2)]), (b7, O_String Z (.int (0 : Int32)) (.ref b9)), (b9, Ary Z .byte [(.int (p0 &&& (255 : Int32)).toInt8.toInt32)]), (b10, O_String Z (.int (0 : Int32)) (.ref b12)), (b12, Ary Z .byte [(.int y1.toInt8.toInt32)]), (b13, O_String Z (.int (0 : Int32)) (.ref b15)), (b15, Ary Z .byte [(.int y2.toInt8.toInt32)]), (b16, O_RowsRead Z (.ref l18) (.ref ln19)), (l18, O_ArrayList Z (.int (0 : Int32)) (.ref dc) (.int (0 : Int32))), (ln19, Ary Z .long [(.long (0 : Int64)), (.long (0 : Int64)), (.long (0 : Int64)), (.long (0 : Int64)), (.long (0 : Int64)), (.long (0 : Int64)), (.long (0 : Int64)), (.long (0 : Int64)), (.long (0 : Int64)), (.long (0 : Int64)), (.long (0 : Int64)), (.long (0 : Int64)), (.long (0 : Int64)), (.long (0 : Int64)), (.long (0 : Int64)), (.long (0 : Int64))])]) (M' := []) (cells' := 12) (slots' := 48) rfl rfl rfl rfl
        show Go p e below _ (T17.setTop (mkF m 134 #[.val (.int p0), .val (.int p1), .val (.long p2), .second, .val (.long p3), .second, .val (.long p4), .second, .val (.int (p0 &&& (255 : Int32))), .val (.int y1), .val (.int y2), .val (.ref b1), .val (.ref b3), .val (.ref b5), .val (.ref b7), .val (.ref b10), .val (.ref b13), .val (.int (1 : Int32)), .unset, .unset, .unset, .unset, .unset] [(.ref b16)]))
        refine C.astore S17 at_134 136 rfl rfl #[.val (.int p0), .val (.int p1), .val (.long p2), .second, .val (.long p3), .second, .val (.long p4), .second, .val (.int (p0 &&& (255 : Int32))), .val (.int y1), .val (.int y2), .val (.ref b1), .val (.ref b3), .val (.ref b5), .val (.ref b7), .val (.ref b10), .val (.ref b13), .val (.int (1 : Int32)), .val (.ref b16), .unset, .unset, .unset, .unset] rfl ?_
        refine C.aload S17 at_136 138 rfl rfl rfl ?_
        refine C.aload S17 at_138 140 rfl rfl rfl ?_
        refine C.lloadN S17 at_140 141 rfl rfl ?_
        refine C.callVirtual S17 (S17.exa 9 rfl) (w67 hw) (w68 hw) (Or.inl (w70 hw)) (w70 hw) (w69 hw) (w33 hw) (w71 hw) (by decide) (rrAdd_0 hw hCS hcs hD hDA b16 b7 p2 l18 ln19 (0 : Int32) b9) at_141 144 rfl rfl pd14 [(.ref b7), (.long p2)] [] rfl rfl rfl [9, 10, 11, 3] rfl (by decide) rfl [] rfl (leD rfl) (leD rfl) (leD rfl) (leD rfl) ?_
        rintro T20 _ _ _ ⟨b21, rfl, rfl, rfl⟩ hro20 S20
        replace S20 := S20.as (L' := [(b1, Ary Z .char [(.int (p0 &&& (255 : Int32)))]), (b3, Ary Z .char [(.int y1)]), (b5, Ary Z .char [(.int y2)]), (b7, O_String Z (.int (0 : Int32)) (.ref b9)), (b9, Ary Z .byte [(.int (p0 &&& (255 : Int32)).toInt8.toInt32)]), (b10, O_String Z (.int (0 : Int32)) (.ref b12)), (b12, Ary Z .byte [(.int y1.toInt8.toInt32)]), (b13, O_String Z (.int (0 : Int32)) (.ref b15)), (b15, Ary Z .byte [(.int y2.toInt8.toInt32)]), (b16, O_RowsRead Z (.ref l18) (.ref ln19)), (l18, O_ArrayList Z (.int ((0 : Int32) + (1 : Int32))) (.ref b21) (.int (1 : Int32))), (ln19, Ary Z .long [(.long p2), (.long (0 : Int64)), (.long (0 : Int64)), (.long (0 : Int64)), (.long (0 : Int64)), (.long (0 : Int64)), (.long (0 : Int64)), (.long (0 : Int64)), (.long (0 : Int64)), (.long (0 : Int64)), (.long (0 : Int64)), (.long (0 : Int64)), (.long (0 : Int64)), (.long (0 : Int64)), (.long (0 : Int64)), (.long (0 : Int64))]), (b21, AryR Z "java/lang/Object" [(.ref b7), .null, .null, .null, .null, .null, .null, .null, .null, .null])]) (M' := []) (cells' := 13) (slots' := 58) rfl rfl rfl rfl
        show Go p e below _ (T20.setTop (mkF m 144 #[.val (.int p0), .val (.int p1), .val (.long p2), .second, .val (.long p3), .second, .val (.long p4), .second, .val (.int (p0 &&& (255 : Int32))), .val (.int y1), .val (.int y2), .val (.ref b1), .val (.ref b3), .val (.ref b5), .val (.ref b7), .val (.ref b10), .val (.ref b13), .val (.int (1 : Int32)), .val (.ref b16), .unset, .unset, .unset, .unset] []))
        refine C.iload S20 at_144 146 rfl rfl ?_
        refine C.iconst S20 at_146 147 rfl (2 : Int32) rfl ?_
        refine C.icmp_lt S20 at_147 159 150 (by decide) (by decide) rfl (fun hc22 => ?_) fun hc22 => absurd hc22 (by decide)
        refine C.iload S20 at_159 161 rfl rfl ?_
        refine C.iconst S20 at_161 162 rfl (3 : Int32) rfl ?_
        refine C.icmp_lt S20 at_162 174 165 (by decide) (by decide) rfl (fun hc23 => ?_) fun hc23 => absurd hc23 (by decide)
        have hk := own_k1 (XT.ushr p1 2)
        refine C.iloadN S20 at_174 175 rfl rfl ?_
        refine C.iconst S20 at_175 176 rfl (2 : Int32) rfl ?_
        refine C.iushr S20 at_176 177 rfl (XT.ushr p1 (2 : Int32)) rfl ?_
        refine C.ldcInt S20 (w115 hw) at_177 179 rfl ?_
        refine C.iand S20 at_179 180 rfl ((XT.ushr p1 (2 : Int32)) &&& (2147483647 : Int32)) rfl ?_
        refine C.iload S20 at_180 182 rfl rfl ?_
        refine C.irem S20 at_182 183 rfl (by decide) (0 : Int32) hk ?_
        refine C.istore S20 at_183 185 rfl #[.val (.int p0), .val (.int p1), .val (.long p2), .second, .val (.long p3), .second, .val (.long p4), .second, .val (.int (p0 &&& (255 : Int32))), .val (.int y1), .val (.int y2), .val (.ref b1), .val (.ref b3), .val (.ref b5), .val (.ref b7), .val (.ref b10), .val (.ref b13), .val (.int (1 : Int32)), .val (.ref b16), .val (.int (0 : Int32)), .unset, .unset, .unset] rfl ?_
        refine C.iload S20 at_185 187 rfl rfl ?_
        refine C.if_ne S20 at_187 195 190 (by decide) (by decide) rfl (fun hc24 => absurd hc24 (by decide)) fun hc24 => ?_
        refine C.aload S20 at_190 192 rfl rfl rfl ?_
        refine C.goto S20 at_192 208 (by decide) (by decide) ?_
        refine C.astore S20 at_208 210 rfl rfl #[.val (.int p0), .val (.int p1), .val (.long p2), .second, .val (.long p3), .second, .val (.long p4), .second, .val (.int (p0 &&& (255 : Int32))), .val (.int y1), .val (.int y2), .val (.ref b1), .val (.ref b3), .val (.ref b5), .val (.ref b7), .val (.ref b10), .val (.ref b13), .val (.int (1 : Int32)), .val (.ref b16), .val (.int (0 : Int32)), .val (.ref b7), .unset, .unset] rfl ?_
        refine C.iload S20 at_210 212 rfl rfl ?_
        refine C.if_ne S20 at_212 219 215 (by decide) (by decide) rfl (fun hc25 => absurd hc25 (by decide)) fun hc25 => ?_
        refine C.lloadN S20 at_215 216 rfl rfl ?_
        refine C.goto S20 at_216 232 (by decide) (by decide) ?_
        refine C.lstore S20 at_232 234 rfl #[.val (.int p0), .val (.int p1), .val (.long p2), .second, .val (.long p3), .second, .val (.long p4), .second, .val (.int (p0 &&& (255 : Int32))), .val (.int y1), .val (.int y2), .val (.ref b1), .val (.ref b3), .val (.ref b5), .val (.ref b7), .val (.ref b10), .val (.ref b13), .val (.int (1 : Int32)), .val (.ref b16), .val (.int (0 : Int32)), .val (.ref b7), .val (.long p2), .second] rfl ?_
        refine C.aload S20 at_234 236 rfl rfl rfl ?_
        refine C.aload S20 at_236 238 rfl rfl rfl ?_
        refine C.callVirtual S20 (S20.exa 9 rfl) (w116 hw) (w117 hw) (Or.inl (w119 hw)) (w119 hw) (w118 hw) (w33 hw) (w120 hw) (by decide) (rrLine_1_0 hw hCS hcs hD hDA b16 l18 ln19 ((0 : Int32) + (1 : Int32)) b21 b7 p2) at_238 241 rfl rfl pd15 [(.ref b7)] [] rfl rfl rfl [9, 10, 11, 12] rfl (by decide) rfl [] rfl (leD rfl) (leD rfl) (leD rfl) (leD rfl) ?_
        rintro T26 _ _ _ ⟨rfl, rfl, rfl⟩ hro26 S26
        replace S26 := S26.as (L' := [(b1, Ary Z .char [(.int (p0 &&& (255 : Int32)))]), (b3, Ary Z .char [(.int y1)]), (b5, Ary Z .char [(.int y2)]), (b7, O_String Z (.int (0 : Int32)) (.ref b9)), (b9, Ary Z .byte [(.int (p0 &&& (255 : Int32)).toInt8.toInt32)]), (b10, O_String Z (.int (0 : Int32)) (.ref b12)), (b12, Ary Z .byte [(.int y1.toInt8.toInt32)]), (b13, O_String Z (.int (0 : Int32)) (.ref b15)), (b15, Ary Z .byte [(.int y2.toInt8.toInt32)]), (b16, O_RowsRead Z (.ref l18) (.ref ln19)), (l18, O_ArrayList Z (.int ((0 : Int32) + (1 : Int32))) (.ref b21) (.int (1 : Int32))), (ln19, Ary Z .long [(.long p2), (.long (0 : Int64)), (.long (0 : Int64)), (.long (0 : Int64)), (.long (0 : Int64)), (.long (0 : Int64)), (.long (0 : Int64)), (.long (0 : Int64)), (.long (0 : Int64)), (.long (0 : Int64)), (.long (0 : Int64)), (.long (0 : Int64)), (.long (0 : Int64)), (.long (0 : Int64)), (.long (0 : Int64)), (.long (0 : Int64))]), (b21, AryR Z "java/lang/Object" [(.ref b7), .null, .null, .null, .null, .null, .null, .null, .null, .null])]) (M' := []) (cells' := 13) (slots' := 58) rfl rfl rfl rfl
        show Go p e below _ (T26.setTop (mkF m 241 #[.val (.int p0), .val (.int p1), .val (.long p2), .second, .val (.long p3), .second, .val (.long p4), .second, .val (.int (p0 &&& (255 : Int32))), .val (.int y1), .val (.int y2), .val (.ref b1), .val (.ref b3), .val (.ref b5), .val (.ref b7), .val (.ref b10), .val (.ref b13), .val (.int (1 : Int32)), .val (.ref b16), .val (.int (0 : Int32)), .val (.ref b7), .val (.long p2), .second] [(.long p2)]))
        refine C.lload S26 at_241 243 rfl rfl ?_
        refine C.lcmp S26 at_243 244 rfl (XT.cmpL p2 p2) rfl ?_
        refine C.if_ne S26 at_244 251 247 (by decide) (by decide) rfl (fun hc27 => absurd (own_c0 _) hc27) fun hc27 => ?_
        refine C.iconst S26 at_247 248 rfl (1 : Int32) rfl ?_
        refine C.goto S26 at_248 252 (by decide) (by decide) ?_
        exact C.retN S26 (by simp) at_252 (1 : Int32) (by decide) [] rfl (by decide) [] rfl fa0 ⟨rfl, rfl, rfl⟩ rfl (leD rfl) (leD rfl)
      · refine C.iconst S14 at_118 119 rfl (1 : Int32) rfl ?_
        refine C.iloadN S14 at_119 120 rfl rfl ?_
        refine C.iconst S14 at_120 121 rfl (3 : Int32) rfl ?_
        refine C.iand S14 at_121 122 rfl (p1 &&& (3 : Int32)) rfl ?_
        refine C.iconst S14 at_122 123 rfl (3 : Int32) rfl ?_
        refine C.irem S14 at_123 124 rfl (by decide) ((p1 &&& (3 : Int32)) % (3 : Int32)) rfl ?_
        refine C.iadd S14 at_124 125 rfl (2 : Int32) hn ?_
        refine C.istore S14 at_125 127 rfl #[.val (.int p0), .val (.int p1), .val (.long p2), .second, .val (.long p3), .second, .val (.long p4), .second, .val (.int (p0 &&& (255 : Int32))), .val (.int y1), .val (.int y2), .val (.ref b1), .val (.ref b3), .val (.ref b5), .val (.ref b7), .val (.ref b10), .val (.ref b13), .val (.int (2 : Int32)), .unset, .unset, .unset, .unset, .unset] rfl ?_
        refine C.new S14 (w31 hw) (w32 hw) (w33 hw) at_127 (layO_RowsRead hw) (by decide) 130 rfl (leD rfl) (leD rfl) fun T28 b28 S28 => ?_
        replace S28 := S28.as (L' := [(b1, Ary Z .char [(.int (p0 &&& (255 : Int32)))]), (b3, Ary Z .char [(.int y1)]), (b5, Ary Z .char [(.int y2)]), (b7, O_String Z (.int (0 : Int32)) (.ref b9)), (b9, Ary Z .byte [(.int (p0 &&& (255 : Int32)).toInt8.toInt32)]), (b10, O_String Z (.int (0 : Int32)) (.ref b12)), (b12, Ary Z .byte [(.int y1.toInt8.toInt32)]), (b13, O_String Z (.int (0 : Int32)) (.ref b15)), (b15, Ary Z .byte [(.int y2.toInt8.toInt32)]), (b28, O_RowsRead Z .null .null)]) (M' := []) (cells' := 10) (slots' := 29) rfl rfl rfl rfl
        refine C.dup S28 at_130 131 rfl rfl ?_
        refine C.callSpecial (a := b28) S28 rfl (w34 hw) (w35 hw) (w33 hw) (w36 hw) (by decide) (rrInit hw hCS hcs hD hDA b28) at_131 134 rfl rfl pd4 [] [(.ref b28)] rfl rfl rfl [9] rfl (by decide) rfl [] rfl (leD rfl) (leD rfl) (leD rfl) (leD rfl) ?_
        rintro T29 _ _ _ ⟨l30, ln31, rfl, rfl, rfl⟩ hro29 S29
        replace S29 := S29.as (L' := [(b1, Ary Z .char [(.int (p0 &&& (255 : Int32)))]), (b3, Ary Z .char [(.int y1)]), (b5, Ary Z .char [(.int y2)]), (b7, O_String Z (.int (0 : Int32)) (.ref b9)), (b9, Ary Z .byte [(.int (p0 &&& (255 : Int32)).toInt8.toInt32)]), (b10, O_String Z (.int (0 : Int32)) (.ref b12)), (b12, Ary Z .byte [(.int y1.toInt8.toInt32)]), (b13, O_String Z (.int (0 : Int32)) (.ref b15)), (b15, Ary Z .byte [(.int y2.toInt8.toInt32)]), (b28, O_RowsRead Z (.ref l30) (.ref ln31)), (l30, O_ArrayList Z (.int (0 : Int32)) (.ref dc) (.int (0 : Int32))), (ln31, Ary Z .long [(.long (0 : Int64)), (.long (0 : Int64)), (.long (0 : Int64)), (.long (0 : Int64)), (.long (0 : Int64)), (.long (0 : Int64)), (.long (0 : Int64)), (.long (0 : Int64)), (.long (0 : Int64)), (.long (0 : Int64)), (.long (0 : Int64)), (.long (0 : Int64)), (.long (0 : Int64)), (.long (0 : Int64)), (.long (0 : Int64)), (.long (0 : Int64))])]) (M' := []) (cells' := 12) (slots' := 48) rfl rfl rfl rfl
        show Go p e below _ (T29.setTop (mkF m 134 #[.val (.int p0), .val (.int p1), .val (.long p2), .second, .val (.long p3), .second, .val (.long p4), .second, .val (.int (p0 &&& (255 : Int32))), .val (.int y1), .val (.int y2), .val (.ref b1), .val (.ref b3), .val (.ref b5), .val (.ref b7), .val (.ref b10), .val (.ref b13), .val (.int (2 : Int32)), .unset, .unset, .unset, .unset, .unset] [(.ref b28)]))
        refine C.astore S29 at_134 136 rfl rfl #[.val (.int p0), .val (.int p1), .val (.long p2), .second, .val (.long p3), .second, .val (.long p4), .second, .val (.int (p0 &&& (255 : Int32))), .val (.int y1), .val (.int y2), .val (.ref b1), .val (.ref b3), .val (.ref b5), .val (.ref b7), .val (.ref b10), .val (.ref b13), .val (.int (2 : Int32)), .val (.ref b28), .unset, .unset, .unset, .unset] rfl ?_
        refine C.aload S29 at_136 138 rfl rfl rfl ?_
        refine C.aload S29 at_138 140 rfl rfl rfl ?_
        refine C.lloadN S29 at_140 141 rfl rfl ?_
        refine C.callVirtual S29 (S29.exa 9 rfl) (w67 hw) (w68 hw) (Or.inl (w70 hw)) (w70 hw) (w69 hw) (w33 hw) (w71 hw) (by decide) (rrAdd_0 hw hCS hcs hD hDA b28 b7 p2 l30 ln31 (0 : Int32) b9) at_141 144 rfl rfl pd14 [(.ref b7), (.long p2)] [] rfl rfl rfl [9, 10, 11, 3] rfl (by decide) rfl [] rfl (leD rfl) (leD rfl) (leD rfl) (leD rfl) ?_
        rintro T32 _ _ _ ⟨b33, rfl, rfl, rfl⟩ hro32 S32
        replace S32 := S32.as (L' := [(b1, Ary Z .char [(.int (p0 &&& (255 : Int32)))]), (b3, Ary Z .char [(.int y1)]), (b5, Ary Z .char [(.int y2)]), (b7, O_String Z (.int (0 : Int32)) (.ref b9)), (b9, Ary Z .byte [(.int (p0 &&& (255 : Int32)).toInt8.toInt32)]), (b10, O_String Z (.int (0 : Int32)) (.ref b12)), (b12, Ary Z .byte [(.int y1.toInt8.toInt32)]), (b13, O_String Z (.int (0 : Int32)) (.ref b15)), (b15, Ary Z .byte [(.int y2.toInt8.toInt32)]), (b28, O_RowsRead Z (.ref l30) (.ref ln31)), (l30, O_ArrayList Z (.int ((0 : Int32) + (1 : Int32))) (.ref b33) (.int (1 : Int32))), (ln31, Ary Z .long [(.long p2), (.long (0 : Int64)), (.long (0 : Int64)), (.long (0 : Int64)), (.long (0 : Int64)), (.long (0 : Int64)), (.long (0 : Int64)), (.long (0 : Int64)), (.long (0 : Int64)), (.long (0 : Int64)), (.long (0 : Int64)), (.long (0 : Int64)), (.long (0 : Int64)), (.long (0 : Int64)), (.long (0 : Int64)), (.long (0 : Int64))]), (b33, AryR Z "java/lang/Object" [(.ref b7), .null, .null, .null, .null, .null, .null, .null, .null, .null])]) (M' := []) (cells' := 13) (slots' := 58) rfl rfl rfl rfl
        show Go p e below _ (T32.setTop (mkF m 144 #[.val (.int p0), .val (.int p1), .val (.long p2), .second, .val (.long p3), .second, .val (.long p4), .second, .val (.int (p0 &&& (255 : Int32))), .val (.int y1), .val (.int y2), .val (.ref b1), .val (.ref b3), .val (.ref b5), .val (.ref b7), .val (.ref b10), .val (.ref b13), .val (.int (2 : Int32)), .val (.ref b28), .unset, .unset, .unset, .unset] []))
        refine C.iload S32 at_144 146 rfl rfl ?_
        refine C.iconst S32 at_146 147 rfl (2 : Int32) rfl ?_
        refine C.icmp_lt S32 at_147 159 150 (by decide) (by decide) rfl (fun hc34 => absurd hc34 (by decide)) fun hc34 => ?_
        refine C.aload S32 at_150 152 rfl rfl rfl ?_
        refine C.aload S32 at_152 154 rfl rfl rfl ?_
        refine C.lload S32 at_154 156 rfl rfl ?_
        refine C.callVirtual S32 (S32.exa 9 rfl) (w67 hw) (w68 hw) (Or.inl (w70 hw)) (w70 hw) (w69 hw) (w33 hw) (w71 hw) (by decide) (rrAdd_1 hw hCS hcs hD hDA b28 b10 p3 l30 ln31 ((0 : Int32) + (1 : Int32)) b12 p2 b7 b33) at_156 159 rfl rfl pd14 [(.ref b10), (.long p3)] [] rfl rfl rfl [9, 10, 11, 5, 12] rfl (by decide) rfl [] rfl (leD rfl) (leD rfl) (leD rfl) (leD rfl) ?_
        rintro T35 _ _ _ ⟨rfl, rfl, rfl⟩ hro35 S35
        replace S35 := S35.as (L' := [(b1, Ary Z .char [(.int (p0 &&& (255 : Int32)))]), (b3, Ary Z .char [(.int y1)]), (b5, Ary Z .char [(.int y2)]), (b7, O_String Z (.int (0 : Int32)) (.ref b9)), (b9, Ary Z .byte [(.int (p0 &&& (255 : Int32)).toInt8.toInt32)]), (b10, O_String Z (.int (0 : Int32)) (.ref b12)), (b12, Ary Z .byte [(.int y1.toInt8.toInt32)]), (b13, O_String Z (.int (0 : Int32)) (.ref b15)), (b15, Ary Z .byte [(.int y2.toInt8.toInt32)]), (b28, O_RowsRead Z (.ref l30) (.ref ln31)), (l30, O_ArrayList Z (.int (((0 : Int32) + (1 : Int32)) + (1 : Int32))) (.ref b33) (.int (2 : Int32))), (ln31, Ary Z .long [(.long p2), (.long p3), (.long (0 : Int64)), (.long (0 : Int64)), (.long (0 : Int64)), (.long (0 : Int64)), (.long (0 : Int64)), (.long (0 : Int64)), (.long (0 : Int64)), (.long (0 : Int64)), (.long (0 : Int64)), (.long (0 : Int64)), (.long (0 : Int64)), (.long (0 : Int64)), (.long (0 : Int64)), (.long (0 : Int64))]), (b33, AryR Z "java/lang/Object" [(.ref b7), (.ref b10), .null, .null, .null, .null, .null, .null, .null, .null])]) (M' := []) (cells' := 13) (slots' := 58) rfl rfl rfl rfl
        show Go p e below _ (T35.setTop (mkF m 159 #[.val (.int p0), .val (.int p1), .val (.long p2), .second, .val (.long p3), .second, .val (.long p4), .second, .val (.int (p0 &&& (255 : Int32))), .val (.int y1), .val (.int y2), .val (.ref b1), .val (.ref b3), .val (.ref b5), .val (.ref b7), .val (.ref b10), .val (.ref b13), .val (.int (2 : Int32)), .val (.ref b28), .unset, .unset, .unset, .unset] []))
        refine C.iload S35 at_159 161 rfl rfl ?_
        refine C.iconst S35 at_161 162 rfl (3 : Int32) rfl ?_
        refine C.icmp_lt S35 at_162 174 165 (by decide) (by decide) rfl (fun hc36 => ?_) fun hc36 => absurd hc36 (by decide)
        rcases own_k2 (XT.ushr p1 2) with hk | hk
        · refine C.iloadN S35 at_174 175 rfl rfl ?_
          refine C.iconst S35 at_175 176 rfl (2 : Int32) rfl ?_
          refine C.iushr S35 at_176 177 rfl (XT.ushr p1 (2 : Int32)) rfl ?_
          refine C.ldcInt S35 (w115 hw) at_177 179 rfl ?_
          refine C.iand S35 at_179 180 rfl ((XT.ushr p1 (2 : Int32)) &&& (2147483647 : Int32)) rfl ?_
          refine C.iload S35 at_180 182 rfl rfl ?_
          refine C.irem S35 at_182 183 rfl (by decide) (0 : Int32) hk ?_
          refine C.istore S35 at_183 185 rfl #[.val (.int p0), .val (.int p1), .val (.long p2), .second, .val (.long p3), .second, .val (.long p4), .second, .val (.int (p0 &&& (255 : Int32))), .val (.int y1), .val (.int y2), .val (.ref b1), .val (.ref b3), .val (.ref b5), .val (.ref b7), .val (.ref b10), .val (.ref b13), .val (.int (2 : Int32)), .val (.ref b28), .val (.int (0 : Int32)), .unset, .unset, .unset] rfl ?_
          refine C.iload S35 at_185 187 rfl rfl ?_
          refine C.if_ne S35 at_187 195 190 (by decide) (by decide) rfl (fun hc37 => absurd hc37 (by decide)) fun hc37 => ?_
          refine C.aload S35 at_190 192 rfl rfl rfl ?_
          refine C.goto S35 at_192 208 (by decide) (by decide) ?_
          refine C.astore S35 at_208 210 rfl rfl #[.val (.int p0), .val (.int p1), .val (.long p2), .second, .val (.long p3), .second, .val (.long p4), .second, .val (.int (p0 &&& (255 : Int32))), .val (.int y1), .val (.int y2), .val (.ref b1), .val (.ref b3), .val (.ref b5), .val (.ref b7), .val (.ref b10), .val (.ref b13), .val (.int (2 : Int32)), .val (.ref b28), .val (.int (0 : Int32)), .val (.ref b7), .unset, .unset] rfl ?_
          refine C.iload S35 at_210 212 rfl rfl ?_
          refine C.if_ne S35 at_212 219 215 (by decide) (by decide) rfl (fun hc38 => absurd hc38 (by decide)) fun hc38 => ?_
          refine C.lloadN S35 at_215 216 rfl rfl ?_
          refine C.goto S35 at_216 232 (by decide) (by decide) ?_
          refine C.lstore S35 at_232 234 rfl #[.val (.int p0), .val (.int p1), .val (.long p2), .second, .val (.long p3), .second, .val (.long p4), .second, .val (.int (p0 &&& (255 : Int32))), .val (.int y1), .val (.int y2), .val (.ref b1), .val (.ref b3), .val (.ref b5), .val (.ref b7), .val (.ref b10), .val (.ref b13), .val (.int (2 : Int32)), .val (.ref b28), .val (.int (0 : Int32)), .val (.ref b7), .val (.long p2), .second] rfl ?_
          refine C.aload S35 at_234 236 rfl rfl rfl ?_
          refine C.aload S35 at_236 238 rfl rfl rfl ?_
          refine C.callVirtual S35 (S35.exa 9 rfl) (w116 hw) (w117 hw) (Or.inl (w119 hw)) (w119 hw) (w118 hw) (w33 hw) (w120 hw) (by decide) (rrLine_2_0 hw hCS hcs hD hDA b28 l30 ln31 (((0 : Int32) + (1 : Int32)) + (1 : Int32)) b33 b7 b10 p2 p3) at_238 241 rfl rfl pd15 [(.ref b7)] [] rfl rfl rfl [9, 10, 11, 12] rfl (by decide) rfl [] rfl (leD rfl) (leD rfl) (leD rfl) (leD rfl) ?_
          rintro T39 _ _ _ ⟨rfl, rfl, rfl⟩ hro39 S39
          replace S39 := S39.as (L' := [(b1, Ary Z .char [(.int (p0 &&& (255 : Int32)))]), (b3, Ary Z .char [(.int y1)]), (b5, Ary Z .char [(.int y2)]), (b7, O_String Z (.int (0 : Int32)) (.ref b9)), (b9, Ary Z .byte [(.int (p0 &&& (255 : Int32)).toInt8.toInt32)]), (b10, O_String Z (.int (0 : Int32)) (.ref b12)), (b12, Ary Z .byte [(.int y1.toInt8.toInt32)]), (b13, O_String Z (.int (0 : Int32)) (.ref b15)), (b15, Ary Z .byte [(.int y2.toInt8.toInt32)]), (b28, O_RowsRead Z (.ref l30) (.ref ln31)), (l30, O_ArrayList Z (.int (((0 : Int32) + (1 : Int32)) + (1 : Int32))) (.ref b33) (.int (2 : Int32))), (ln31, Ary Z .long [(.long p2), (.long p3), (.long (0 : Int64)), (.long (0 : Int64)), (.long (0 : Int64)), (.long (0 : Int64)), (.long (0 : Int64)), (.long (0 : Int64)), (.long (0 : Int64)), (.long (0 : Int64)), (.long (0 : Int64)), (.long (0 : Int64)), (.long (0 : Int64)), (.long (0 : Int64)), (.long (0 : Int64)), (.long (0 : Int64))]), (b33, AryR Z "java/lang/Object" [(.ref b7), (.ref b10), .null, .null, .null, .null, .null, .null, .null, .null])]) (M' := []) (cells' := 13) (slots' := 58) rfl rfl rfl rfl
          show Go p e below _ (T39.setTop (mkF m 241 #[.val (.int p0), .val (.int p1), .val (.long p2), .second, .val (.long p3), .second, .val (.long p4), .second, .val (.int (p0 &&& (255 : Int32))), .val (.int y1), .val (.int y2), .val (.ref b1), .val (.ref b3), .val (.ref b5), .val (.ref b7), .val (.ref b10), .val (.ref b13), .val (.int (2 : Int32)), .val (.ref b28), .val (.int (0 : Int32)), .val (.ref b7), .val (.long p2), .second] [(.long p2)]))
          refine C.lload S39 at_241 243 rfl rfl ?_
          refine C.lcmp S39 at_243 244 rfl (XT.cmpL p2 p2) rfl ?_
          refine C.if_ne S39 at_244 251 247 (by decide) (by decide) rfl (fun hc40 => absurd (own_c0 _) hc40) fun hc40 => ?_
          refine C.iconst S39 at_247 248 rfl (1 : Int32) rfl ?_
          refine C.goto S39 at_248 252 (by decide) (by decide) ?_
          exact C.retN S39 (by simp) at_252 (1 : Int32) (by decide) [] rfl (by decide) [] rfl fa0 ⟨rfl, rfl, rfl⟩ rfl (leD rfl) (leD rfl)
        · refine C.iloadN S35 at_174 175 rfl rfl ?_
          refine C.iconst S35 at_175 176 rfl (2 : Int32) rfl ?_
          refine C.iushr S35 at_176 177 rfl (XT.ushr p1 (2 : Int32)) rfl ?_
          refine C.ldcInt S35 (w115 hw) at_177 179 rfl ?_
          refine C.iand S35 at_179 180 rfl ((XT.ushr p1 (2 : Int32)) &&& (2147483647 : Int32)) rfl ?_
          refine C.iload S35 at_180 182 rfl rfl ?_
          refine C.irem S35 at_182 183 rfl (by decide) (1 : Int32) hk ?_
          refine C.istore S35 at_183 185 rfl #[.val (.int p0), .val (.int p1), .val (.long p2), .second, .val (.long p3), .second, .val (.long p4), .second, .val (.int (p0 &&& (255 : Int32))), .val (.int y1), .val (.int y2), .val (.ref b1), .val (.ref b3), .val (.ref b5), .val (.ref b7), .val (.ref b10), .val (.ref b13), .val (.int (2 : Int32)), .val (.ref b28), .val (.int (1 : Int32)), .unset, .unset, .unset] rfl ?_
          refine C.iload S35 at_185 187 rfl rfl ?_
          refine C.if_ne S35 at_187 195 190 (by decide) (by decide) rfl (fun hc41 => ?_) fun hc41 => absurd hc41 (by decide)
          refine C.iload S35 at_195 197 rfl rfl ?_
          refine C.iconst S35 at_197 198 rfl (1 : Int32) rfl ?_
          refine C.icmp_ne S35 at_198 206 201 (by decide) (by decide) rfl (fun hc42 => absurd hc42 (by decide)) fun hc42 => ?_
          refine C.aload S35 at_201 203 rfl rfl rfl ?_
          refine C.goto S35 at_203 208 (by decide) (by decide) ?_
          refine C.astore S35 at_208 210 rfl rfl #[.val (.int p0), .val (.int p1), .val (.long p2), .second, .val (.long p3), .second, .val (.long p4), .second, .val (.int (p0 &&& (255 : Int32))), .val (.int y1), .val (.int y2), .val (.ref b1), .val (.ref b3), .val (.ref b5), .val (.ref b7), .val (.ref b10), .val (.ref b13), .val (.int (2 : Int32)), .val (.ref b28), .val (.int (1 : Int32)), .val (.ref b10), .unset, .unset] rfl ?_
          refine C.iload S35 at_210 212 rfl rfl ?_
          refine C.if_ne S35 at_212 219 215 (by decide) (by decide) rfl (fun hc43 => ?_) fun hc43 => absurd hc43 (by decide)
          refine C.iload S35 at_219 221 rfl rfl ?_
          refine C.iconst S35 at_221 222 rfl (1 : Int32) rfl ?_
          refine C.icmp_ne S35 at_222 230 225 (by decide) (by decide) rfl (fun hc44 => absurd hc44 (by decide)) fun hc44 => ?_
          refine C.lload S35 at_225 227 rfl rfl ?_
          refine C.goto S35 at_227 232 (by decide) (by decide) ?_
          refine C.lstore S35 at_232 234 rfl #[.val (.int p0), .val (.int p1), .val (.long p2), .second, .val (.long p3), .second, .val (.long p4), .second, .val (.int (p0 &&& (255 : Int32))), .val (.int y1), .val (.int y2), .val (.ref b1), .val (.ref b3), .val (.ref b5), .val (.ref b7), .val (.ref b10), .val (.ref b13), .val (.int (2 : Int32)), .val (.ref b28), .val (.int (1 : Int32)), .val (.ref b10), .val (.long p3), .second] rfl ?_
          refine C.aload S35 at_234 236 rfl rfl rfl ?_
          refine C.aload S35 at_236 238 rfl rfl rfl ?_
          refine C.callVirtual S35 (S35.exa 9 rfl) (w116 hw) (w117 hw) (Or.inl (w119 hw)) (w119 hw) (w118 hw) (w33 hw) (w120 hw) (by decide) (rrLine_2_1 hw hCS hcs hD hDA b28 l30 ln31 (((0 : Int32) + (1 : Int32)) + (1 : Int32)) b33 b7 b10 p2 p3 (S35.ne (i := 3) (j := 5) rfl rfl (by decide))) at_238 241 rfl rfl pd15 [(.ref b10)] [] rfl rfl rfl [9, 10, 11, 12] rfl (by decide) rfl [] rfl (leD rfl) (leD rfl) (leD rfl) (leD rfl) ?_
          rintro T45 _ _ _ ⟨rfl, rfl, rfl⟩ hro45 S45
          replace S45 := S45.as (L' := [(b1, Ary Z .char [(.int (p0 &&& (255 : Int32)))]), (b3, Ary Z .char [(.int y1)]), (b5, Ary Z .char [(.int y2)]), (b7, O_String Z (.int (0 : Int32)) (.ref b9)), (b9, Ary Z .byte [(.int (p0 &&& (255 : Int32)).toInt8.toInt32)]), (b10, O_String Z (.int (0 : Int32)) (.ref b12)), (b12, Ary Z .byte [(.int y1.toInt8.toInt32)]), (b13, O_String Z (.int (0 : Int32)) (.ref b15)), (b15, Ary Z .byte [(.int y2.toInt8.toInt32)]), (b28, O_RowsRead Z (.ref l30) (.ref ln31)), (l30, O_ArrayList Z (.int (((0 : Int32) + (1 : Int32)) + (1 : Int32))) (.ref b33) (.int (2 : Int32))), (ln31, Ary Z .long [(.long p2), (.long p3), (.long (0 : Int64)), (.long (0 : Int64)), (.long (0 : Int64)), (.long (0 : Int64)), (.long (0 : Int64)), (.long (0 : Int64)), (.long (0 : Int64)), (.long (0 : Int64)), (.long (0 : Int64)), (.long (0 : Int64)), (.long (0 : Int64)), (.long (0 : Int64)), (.long (0 : Int64)), (.long (0 : Int64))]), (b33, AryR Z "java/lang/Object" [(.ref b7), (.ref b10), .null, .null, .null, .null, .null, .null, .null, .null])]) (M' := []) (cells' := 13) (slots' := 58) rfl rfl rfl rfl
          show Go p e below _ (T45.setTop (mkF m 241 #[.val (.int p0), .val (.int p1), .val (.long p2), .second, .val (.long p3), .second, .val (.long p4), .second, .val (.int (p0 &&& (255 : Int32))), .val (.int y1), .val (.int y2), .val (.ref b1), .val (.ref b3), .val (.ref b5), .val (.ref b7), .val (.ref b10), .val (.ref b13), .val (.int (2 : Int32)), .val (.ref b28), .val (.int (1 : Int32)), .val (.ref b10), .val (.long p3), .second] [(.long p3)]))
          refine C.lload S45 at_241 243 rfl rfl ?_
          refine C.lcmp S45 at_243 244 rfl (XT.cmpL p3 p3) rfl ?_
          refine C.if_ne S45 at_244 251 247 (by decide) (by decide) rfl (fun hc46 => absurd (own_c0 _) hc46) fun hc46 => ?_
          refine C.iconst S45 at_247 248 rfl (1 : Int32) rfl ?_
          refine C.goto S45 at_248 252 (by decide) (by decide) ?_
          exact C.retN S45 (by simp) at_252 (1 : Int32) (by decide) [] rfl (by decide) [] rfl fa0 ⟨rfl, rfl, rfl⟩ rfl (leD rfl) (leD rfl)
      · refine C.iconst S14 at_118 119 rfl (1 : Int32) rfl ?_
        refine C.iloadN S14 at_119 120 rfl rfl ?_
        refine C.iconst S14 at_120 121 rfl (3 : Int32) rfl ?_
        refine C.iand S14 at_121 122 rfl (p1 &&& (3 : Int32)) rfl ?_
        refine C.iconst S14 at_122 123 rfl (3 : Int32) rfl ?_
        refine C.irem S14 at_123 124 rfl (by decide) ((p1 &&& (3 : Int32)) % (3 : Int32)) rfl ?_
        refine C.iadd S14 at_124 125 rfl (3 : Int32) hn ?_
        refine C.istore S14 at_125 127 rfl #[.val (.int p0), .val (.int p1), .val (.long p2), .second, .val (.long p3), .second, .val (.long p4), .second, .val (.int (p0 &&& (255 : Int32))), .val (.int y1), .val (.int y2), .val (.ref b1), .val (.ref b3), .val (.ref b5), .val (.ref b7), .val (.ref b10), .val (.ref b13), .val (.int (3 : Int32)), .unset, .unset, .unset, .unset, .unset] rfl ?_
        refine C.new S14 (w31 hw) (w32 hw) (w33 hw) at_127 (layO_RowsRead hw) (by decide) 130 rfl (leD rfl) (leD rfl) fun T47 b47 S47 => ?_
        replace S47 := S47.as (L' := [(b1, Ary Z .char [(.int (p0 &&& (255 : Int32)))]), (b3, Ary Z .char [(.int y1)]), (b5, Ary Z .char [(.int y2)]), (b7, O_String Z (.int (0 : Int32)) (.ref b9)), (b9, Ary Z .byte [(.int (p0 &&& (255 : Int32)).toInt8.toInt32)]), (b10, O_String Z (.int (0 : Int32)) (.ref b12)), (b12, Ary Z .byte [(.int y1.toInt8.toInt32)]), (b13, O_String Z (.int (0 : Int32)) (.ref b15)), (b15, Ary Z .byte [(.int y2.toInt8.toInt32)]), (b47, O_RowsRead Z .null .null)]) (M' := []) (cells' := 10) (slots' := 29) rfl rfl rfl rfl
        refine C.dup S47 at_130 131 rfl rfl ?_
        refine C.callSpecial (a := b47) S47 rfl (w34 hw) (w35 hw) (w33 hw) (w36 hw) (by decide) (rrInit hw hCS hcs hD hDA b47) at_131 134 rfl rfl pd4 [] [(.ref b47)] rfl rfl rfl [9] rfl (by decide) rfl [] rfl (leD rfl) (leD rfl) (leD rfl) (leD rfl) ?_
        rintro T48 _ _ _ ⟨l49, ln50, rfl, rfl, rfl⟩ hro48 S48
        replace S48 := S48.as (L' := [(b1, Ary Z .char [(.int (p0 &&& (255 : Int32)))]), (b3, Ary Z .char [(.int y1)]), (b5, Ary Z .char [(.int y2)]), (b7, O_String Z (.int (0 : Int32)) (.ref b9)), (b9, Ary Z .byte [(.int (p0 &&& (255 : Int32)).toInt8.toInt32)]), (b10, O_String Z (.int (0 : Int32)) (.ref b12)), (b12, Ary Z .byte [(.int y1.toInt8.toInt32)]), (b13, O_String Z (.int (0 : Int32)) (.ref b15)), (b15, Ary Z .byte [(.int y2.toInt8.toInt32)]), (b47, O_RowsRead Z (.ref l49) (.ref ln50)), (l49, O_ArrayList Z (.int (0 : Int32)) (.ref dc) (.int (0 : Int32))), (ln50, Ary Z .long [(.long (0 : Int64)), (.long (0 : Int64)), (.long (0 : Int64)), (.long (0 : Int64)), (.long (0 : Int64)), (.long (0 : Int64)), (.long (0 : Int64)), (.long (0 : Int64)), (.long (0 : Int64)), (.long (0 : Int64)), (.long (0 : Int64)), (.long (0 : Int64)), (.long (0 : Int64)), (.long (0 : Int64)), (.long (0 : Int64)), (.long (0 : Int64))])]) (M' := []) (cells' := 12) (slots' := 48) rfl rfl rfl rfl
        show Go p e below _ (T48.setTop (mkF m 134 #[.val (.int p0), .val (.int p1), .val (.long p2), .second, .val (.long p3), .second, .val (.long p4), .second, .val (.int (p0 &&& (255 : Int32))), .val (.int y1), .val (.int y2), .val (.ref b1), .val (.ref b3), .val (.ref b5), .val (.ref b7), .val (.ref b10), .val (.ref b13), .val (.int (3 : Int32)), .unset, .unset, .unset, .unset, .unset] [(.ref b47)]))
        refine C.astore S48 at_134 136 rfl rfl #[.val (.int p0), .val (.int p1), .val (.long p2), .second, .val (.long p3), .second, .val (.long p4), .second, .val (.int (p0 &&& (255 : Int32))), .val (.int y1), .val (.int y2), .val (.ref b1), .val (.ref b3), .val (.ref b5), .val (.ref b7), .val (.ref b10), .val (.ref b13), .val (.int (3 : Int32)), .val (.ref b47), .unset, .unset, .unset, .unset] rfl ?_
        refine C.aload S48 at_136 138 rfl rfl rfl ?_
        refine C.aload S48 at_138 140 rfl rfl rfl ?_
        refine C.lloadN S48 at_140 141 rfl rfl ?_
        refine C.callVirtual S48 (S48.exa 9 rfl) (w67 hw) (w68 hw) (Or.inl (w70 hw)) (w70 hw) (w69 hw) (w33 hw) (w71 hw) (by decide) (rrAdd_0 hw hCS hcs hD hDA b47 b7 p2 l49 ln50 (0 : Int32) b9) at_141 144 rfl rfl pd14 [(.ref b7), (.long p2)] [] rfl rfl rfl [9, 10, 11, 3] rfl (by decide) rfl [] rfl (leD rfl) (leD rfl) (leD rfl) (leD rfl) ?_
        rintro T51 _ _ _ ⟨b52, rfl, rfl, rfl⟩ hro51 S51
        replace S51 := S51.as (L' := [(b1, Ary Z .char [(.int (p0 &&& (255 : Int32)))]), (b3, Ary Z .char [(.int y1)]), (b5, Ary Z .char [(.int y2)]), (b7, O_String Z (.int (0 : Int32)) (.ref b9)), (b9, Ary Z .byte [(.int (p0 &&& (255 : Int32)).toInt8.toInt32)]), (b10, O_String Z (.int (0 : Int32)) (.ref b12)), (b12, Ary Z .byte [(.int y1.toInt8.toInt32)]), (b13, O_String Z (.int (0 : Int32)) (.ref b15)), (b15, Ary Z .byte [(.int y2.toInt8.toInt32)]), (b47, O_RowsRead Z (.ref l49) (.ref ln50)), (l49, O_ArrayList Z (.int ((0 : Int32) + (1 : Int32))) (.ref b52) (.int (1 : Int32))), (ln50, Ary Z .long [(.long p2), (.long (0 : Int64)), (.long (0 : Int64)), (.long (0 : Int64)), (.long (0 : Int64)), (.long (0 : Int64)), (.long (0 : Int64)), (.long (0 : Int64)), (.long (0 : Int64)), (.long (0 : Int64)), (.long (0 : Int64)), (.long (0 : Int64)), (.long (0 : Int64)), (.long (0 : Int64)), (.long (0 : Int64)), (.long (0 : Int64))]), (b52, AryR Z "java/lang/Object" [(.ref b7), .null, .null, .null, .null, .null, .null, .null, .null, .null])]) (M' := []) (cells' := 13) (slots' := 58) rfl rfl rfl rfl
        show Go p e below _ (T51.setTop (mkF m 144 #[.val (.int p0), .val (.int p1), .val (.long p2), .second, .val (.long p3), .second, .val (.long p4), .second, .val (.int (p0 &&& (255 : Int32))), .val (.int y1), .val (.int y2), .val (.ref b1), .val (.ref b3), .val (.ref b5), .val (.ref b7), .val (.ref b10), .val (.ref b13), .val (.int (3 : Int32)), .val (.ref b47), .unset, .unset, .unset, .unset] []))
        refine C.iload S51 at_144 146 rfl rfl ?_
        refine C.iconst S51 at_146 147 rfl (2 : Int32) rfl ?_
        refine C.icmp_lt S51 at_147 159 150 (by decide) (by decide) rfl (fun hc53 => absurd hc53 (by decide)) fun hc53 => ?_
        refine C.aload S51 at_150 152 rfl rfl rfl ?_
        refine C.aload S51 at_152 154 rfl rfl rfl ?_
        refine C.lload S51 at_154 156 rfl rfl ?_
        refine C.callVirtual S51 (S51.exa 9 rfl) (w67 hw) (w68 hw) (Or.inl (w70 hw)) (w70 hw) (w69 hw) (w33 hw) (w71 hw) (by decide) (rrAdd_1 hw hCS hcs hD hDA b47 b10 p3 l49 ln50 ((0 : Int32) + (1 : Int32)) b12 p2 b7 b52) at_156 159 rfl rfl pd14 [(.ref b10), (.long p3)] [] rfl rfl rfl [9, 10, 11, 5, 12] rfl (by decide) rfl [] rfl (leD rfl) (leD rfl) (leD rfl) (leD rfl) ?_
        rintro T54 _ _ _ ⟨rfl, rfl, rfl⟩ hro54 S54
        replace S54 := S54.as (L' := [(b1, Ary Z .char [(.int (p0 &&& (255 : Int32)))]), (b3, Ary Z .char [(.int y1)]), (b5, Ary Z .char [(.int y2)]), (b7, O_String Z (.int (0 : Int32)) (.ref b9)), (b9, Ary Z .byte [(.int (p0 &&& (255 : Int32)).toInt8.toInt32)]), (b10, O_String Z (.int (0 : Int32)) (.ref b12)), (b12, Ary Z .byte [(.int y1.toInt8.toInt32)]), (b13, O_String Z (.int (0 : Int32)) (.ref b15)), (b15, Ary Z .byte [(.int y2.toInt8.toInt32)]), (b47, O_RowsRead Z (.ref l49) (.ref ln50)), (l49, O_ArrayList Z (.int (((0 : Int32) + (1 : Int32)) + (1 : Int32))) (.ref b52) (.int (2 : Int32))), (ln50, Ary Z .long [(.long p2), (.long p3), (.long (0 : Int64)), (.long (0 : Int64)), (.long (0 : Int64)), (.long (0 : Int64)), (.long (0 : Int64)), (.long (0 : Int64)), (.long (0 : Int64)), (.long (0 : Int64)), (.long (0 : Int64)), (.long (0 : Int64)), (.long (0 : Int64)), (.long (0 : Int64)), (.long (0 : Int64)), (.long (0 : Int64))]), (b52, AryR Z "java/lang/Object" [(.ref b7), (.ref b10), .null, .null, .null, .null, .null, .null, .null, .null])]) (M' := []) (cells' := 13) (slots' := 58) rfl rfl rfl rfl
        show Go p e below _ (T54.setTop (mkF m 159 #[.val (.int p0), .val (.int p1), .val (.long p2), .second, .val (.long p3), .second, .val (.long p4), .second, .val (.int (p0 &&& (255 : Int32))), .val (.int y1), .val (.int y2), .val (.ref b1), .val (.ref b3), .val (.ref b5), .val (.ref b7), .val (.ref b10), .val (.ref b13), .val (.int (3 : Int32)), .val (.ref b47), .unset, .unset, .unset, .unset] []))
        refine C.iload S54 at_159 161 rfl rfl ?_
        refine C.iconst S54 at_161 162 rfl (3 : Int32) rfl ?_
        refine C.icmp_lt S54 at_162 174 165 (by decide) (by decide) rfl (fun hc55 => absurd hc55 (by decide)) fun hc55 => ?_
        refine C.aload S54 at_165 167 rfl rfl rfl ?_
        refine C.aload S54 at_167 169 rfl rfl rfl ?_
        refine C.lload S54 at_169 171 rfl rfl ?_
        refine C.callVirtual S54 (S54.exa 9 rfl) (w67 hw) (w68 hw) (Or.inl (w70 hw)) (w70 hw) (w69 hw) (w33 hw) (w71 hw) (by decide) (rrAdd_2 hw hCS hcs hD hDA b47 b13 p4 l49 ln50 (((0 : Int32) + (1 : Int32)) + (1 : Int32)) b15 p2 p3 b7 b10 b52) at_171 174 rfl rfl pd14 [(.ref b13), (.long p4)] [] rfl rfl rfl [9, 10, 11, 7, 12] rfl (by decide) rfl [] rfl (leD rfl) (leD rfl) (leD rfl) (leD rfl) ?_
        rintro T56 _ _ _ ⟨rfl, rfl, rfl⟩ hro56 S56
        replace S56 := S56.as (L' := [(b1, Ary Z .char [(.int (p0 &&& (255 : Int32)))]), (b3, Ary Z .char [(.int y1)]), (b5, Ary Z .char [(.int y2)]), (b7, O_String Z (.int (0 : Int32)) (.ref b9)), (b9, Ary Z .byte [(.int (p0 &&& (255 : Int32)).toInt8.toInt32)]), (b10, O_String Z (.int (0 : Int32)) (.ref b12)), (b12, Ary Z .byte [(.int y1.toInt8.toInt32)]), (b13, O_String Z (.int (0 : Int32)) (.ref b15)), (b15, Ary Z .byte [(.int y2.toInt8.toInt32)]), (b47, O_RowsRead Z (.ref l49) (.ref ln50)), (l49, O_ArrayList Z (.int ((((0 : Int32) + (1 : Int32)) + (1 : Int32)) + (1 : Int32))) (.ref b52) (.int (3 : Int32))), (ln50, Ary Z .long [(.long p2), (.long p3), (.long p4), (.long (0 : Int64)), (.long (0 : Int64)), (.long (0 : Int64)), (.long (0 : Int64)), (.long (0 : Int64)), (.long (0 : Int64)), (.long (0 : Int64)), (.long (0 : Int64)), (.long (0 : Int64)), (.long (0 : Int64)), (.long (0 : Int64)), (.long (0 : Int64)), (.long (0 : Int64))]), (b52, AryR Z "java/lang/Object" [(.ref b7), (.ref b10), (.ref b13), .null, .null, .null, .null, .null, .null, .null])]) (M' := []) (cells' := 13) (slots' := 58) rfl rfl rfl rfl
        show Go p e below _ (T56.setTop (mkF m 174 #[.val (.int p0), .val (.int p1), .val (.long p2), .second, .val (.long p3), .second, .val (.long p4), .second, .val (.int (p0 &&& (255 : Int32))), .val (.int y1), .val (.int y2), .val (.ref b1), .val (.ref b3), .val (.ref b5), .val (.ref b7), .val (.ref b10), .val (.ref b13), .val (.int (3 : Int32)), .val (.ref b47), .unset, .unset, .unset, .unset] []))
        rcases own_k3 (XT.ushr p1 2) with hk | hk | hk
        · refine C.iloadN S56 at_174 175 rfl rfl ?_
          refine C.iconst S56 at_175 176 rfl (2 : Int32) rfl ?_
          refine C.iushr S56 at_176 177 rfl (XT.ushr p1 (2 : Int32)) rfl ?_
          refine C.ldcInt S56 (w115 hw) at_177 179 rfl ?_
          refine C.iand S56 at_179 180 rfl ((XT.ushr p1 (2 : Int32)) &&& (2147483647 : Int32)) rfl ?_
          refine C.iload S56 at_180 182 rfl rfl ?_
          refine C.irem S56 at_182 183 rfl (by decide) (0 : Int32) hk ?_
          refine C.istore S56 at_183 185 rfl #[.val (.int p0), .val (.int p1), .val (.long p2), .second, .val (.long p3), .second, .val (.long p4), .second, .val (.int (p0 &&& (255 : Int32))), .val (.int y1), .val (.int y2), .val (.ref b1), .val (.ref b3), .val (.ref b5), .val (.ref b7), .val (.ref b10), .val (.ref b13), .val (.int (3 : Int32)), .val (.ref b47), .val (.int (0 : Int32)), .unset, .unset, .unset] rfl ?_
          refine C.iload S56 at_185 187 rfl rfl ?_
          refine C.if_ne S56 at_187 195 190 (by decide) (by decide) rfl (fun hc57 => absurd hc57 (by decide)) fun hc57 => ?_
          refine C.aload S56 at_190 192 rfl rfl rfl ?_
          refine C.goto S56 at_192 208 (by decide) (by decide) ?_
          refine C.astore S56 at_208 210 rfl rfl #[.val (.int p0), .val (.int p1), .val (.long p2), .second, .val (.long p3), .second, .val (.long p4), .second, .val (.int (p0 &&& (255 : Int32))), .val (.int y1), .val (.int y2), .val (.ref b1), .val (.ref b3), .val (.ref b5), .val (.ref b7), .val (.ref b10), .val (.ref b13), .val (.int (3 : Int32)), .val (.ref b47), .val (.int (0 : Int32)), .val (.ref b7), .unset, .unset] rfl ?_
          refine C.iload S56 at_210 212 rfl rfl ?_
          refine C.if_ne S56 at_212 219 215 (by decide) (by decide) rfl (fun hc58 => absurd hc58 (by decide)) fun hc58 => ?_
          refine C.lloadN S56 at_215 216 rfl rfl ?_
          refine C.goto S56 at_216 232 (by decide) (by decide) ?_
          refine C.lstore S56 at_232 234 rfl #[.val (.int p0), .val (.int p1), .val (.long p2), .second, .val (.long p3), .second, .val (.long p4), .second, .val (.int (p0 &&& (255 : Int32))), .val (.int y1), .val (.int y2), .val (.ref b1), .val (.ref b3), .val (.ref b5), .val (.ref b7), .val (.ref b10), .val (.ref b13), .val (.int (3 : Int32)), .val (.ref b47), .val (.int (0 : Int32)), .val (.ref b7), .val (.long p2), .second] rfl ?_
          refine C.aload S56 at_234 236 rfl rfl rfl ?_
          refine C.aload S56 at_236 238 rfl rfl rfl ?_
          refine C.callVirtual S56 (S56.exa 9 rfl) (w116 hw) (w117 hw) (Or.inl (w119 hw)) (w119 hw) (w118 hw) (w33 hw) (w120 hw) (by decide) (rrLine_3_0 hw hCS hcs hD hDA b47 l49 ln50 ((((0 : Int32) + (1 : Int32)) + (1 : Int32)) + (1 : Int32)) b52 b7 b10 b13 p2 p3 p4) at_238 241 rfl rfl pd15 [(.ref b7)] [] rfl rfl rfl [9, 10, 11, 12] rfl (by decide) rfl [] rfl (leD rfl) (leD rfl) (leD rfl) (leD rfl) ?_
          rintro T59 _ _ _ ⟨rfl, rfl, rfl⟩ hro59 S59
          replace S59 := S59.as (L' := [(b1, Ary Z .char [(.int (p0 &&& (255 : Int32)))]), (b3, Ary Z .char [(.int y1)]), (b5, Ary Z .char [(.int y2)]), (b7, O_String Z (.int (0 : Int32)) (.ref b9)), (b9, Ary Z .byte [(.int (p0 &&& (255 : Int32)).toInt8.toInt32)]), (b10, O_String Z (.int (0 : Int32)) (.ref b12)), (b12, Ary Z .byte [(.int y1.toInt8.toInt32)]), (b13, O_String Z (.int (0 : Int32)) (.ref b15)), (b15, Ary Z .byte [(.int y2.toInt8.toInt32)]), (b47, O_RowsRead Z (.ref l49) (.ref ln50)), (l49, O_ArrayList Z (.int ((((0 : Int32) + (1 : Int32)) + (1 : Int32)) + (1 : Int32))) (.ref b52) (.int (3 : Int32))), (ln50, Ary Z .long [(.long p2), (.long p3), (.long p4), (.long (0 : Int64)), (.long (0 : Int64)), (.long (0 : Int64)), (.long (0 : Int64)), (.long (0 : Int64)), (.long (0 : Int64)), (.long (0 : Int64)), (.long (0 : Int64)), (.long (0 : Int64)), (.long (0 : Int64)), (.long (0 : Int64)), (.long (0 : Int64)), (.long (0 : Int64))]), (b52, AryR Z "java/lang/Object" [(.ref b7), (.ref b10), (.ref b13), .null, .null, .null, .null, .null, .null, .null])]) (M' := []) (cells' := 13) (slots' := 58) rfl rfl rfl rfl
          show Go p e below _ (T59.setTop (mkF m 241 #[.val (.int p0), .val (.int p1), .val (.long p2), .second, .val (.long p3), .second, .val (.long p4), .second, .val (.int (p0 &&& (255 : Int32))), .val (.int y1), .val (.int y2), .val (.ref b1), .val (.ref b3), .val (.ref b5), .val (.ref b7), .val (.ref b10), .val (.ref b13), .val (.int (3 : Int32)), .val (.ref b47), .val (.int (0 : Int32)), .val (.ref b7), .val (.long p2), .second] [(.long p2)]))
          refine C.lload S59 at_241 243 rfl rfl ?_
          refine C.lcmp S59 at_243 244 rfl (XT.cmpL p2 p2) rfl ?_
          refine C.if_ne S59 at_244 251 247 (by decide) (by decide) rfl (fun hc60 => absurd (own_c0 _) hc60) fun hc60 => ?_
          refine C.iconst S59 at_247 248 rfl (1 : Int32) rfl ?_
          refine C.goto S59 at_248 252 (by decide) (by decide) ?_
          exact C.retN S59 (by simp) at_252 (1 : Int32) (by decide) [] rfl (by decide) [] rfl fa0 ⟨rfl, rfl, rfl⟩ rfl (leD rfl) (leD rfl)
        · refine C.iloadN S56 at_174 175 rfl rfl ?_
          refine C.iconst S56 at_175 176 rfl (2 : Int32) rfl ?_
          refine C.iushr S56 at_176 177 rfl (XT.ushr p1 (2 : Int32)) rfl ?_
          refine C.ldcInt S56 (w115 hw) at_177 179 rfl ?_
          refine C.iand S56 at_179 180 rfl ((XT.ushr p1 (2 : Int32)) &&& (2147483647 : Int32)) rfl ?_
          refine C.iload S56 at_180 182 rfl rfl ?_
          refine C.irem S56 at_182 183 rfl (by decide) (1 : Int32) hk ?_
          refine C.istore S56 at_183 185 rfl #[.val (.int p0), .val (.int p1), .val (.long p2), .second, .val (.long p3), .second, .val (.long p4), .second, .val (.int (p0 &&& (255 : Int32))), .val (.int y1), .val (.int y2), .val (.ref b1), .val (.ref b3), .val (.ref b5), .val (.ref b7), .val (.ref b10), .val (.ref b13), .val (.int (3 : Int32)), .val (.ref b47), .val (.int (1 : Int32)), .unset, .unset, .unset] rfl ?_
          refine C.iload S56 at_185 187 rfl rfl ?_
          refine C.if_ne S56 at_187 195 190 (by decide) (by decide) rfl (fun hc61 => ?_) fun hc61 => absurd hc61 (by decide)
          refine C.iload S56 at_195 197 rfl rfl ?_
          refine C.iconst S56 at_197 198 rfl (1 : Int32) rfl ?_
          refine C.icmp_ne S56 at_198 206 201 (by decide) (by decide) rfl (fun hc62 => absurd hc62 (by decide)) fun hc62 => ?_
          refine C.aload S56 at_201 203 rfl rfl rfl ?_
          refine C.goto S56 at_203 208 (by decide) (by decide) ?_
          refine C.astore S56 at_208 210 rfl rfl #[.val (.int p0), .val (.int p1), .val (.long p2), .second, .val (.long p3), .second, .val (.long p4), .second, .val (.int (p0 &&& (255 : Int32))), .val (.int y1), .val (.int y2), .val (.ref b1), .val (.ref b3), .val (.ref b5), .val (.ref b7), .val (.ref b10), .val (.ref b13), .val (.int (3 : Int32)), .val (.ref b47), .val (.int (1 : Int32)), .val (.ref b10), .unset, .unset] rfl ?_
          refine C.iload S56 at_210 212 rfl rfl ?_
          refine C.if_ne S56 at_212 219 215 (by decide) (by decide) rfl (fun hc63 => ?_) fun hc63 => absurd hc63 (by decide)
          refine C.iload S56 at_219 221 rfl rfl ?_
          refine C.iconst S56 at_221 222 rfl (1 : Int32) rfl ?_
          refine C.icmp_ne S56 at_222 230 225 (by decide) (by decide) rfl (fun hc64 => absurd hc64 (by decide)) fun hc64 => ?_
          refine C.lload S56 at_225 227 rfl rfl ?_
          refine C.goto S56 at_227 232 (by decide) (by decide) ?_
          refine C.lstore S56 at_232 234 rfl #[.val (.int p0), .val (.int p1), .val (.long p2), .second, .val (.long p3), .second, .val (.long p4), .second, .val (.int (p0 &&& (255 : Int32))), .val (.int y1), .val (.int y2), .val (.ref b1), .val (.ref b3), .val (.ref b5), .val (.ref b7), .val (.ref b10), .val (.ref b13), .val (.int (3 : Int32)), .val (.ref b47), .val (.int (1 : Int32)), .val (.ref b10), .val (.long p3), .second] rfl ?_
          refine C.aload S56 at_234 236 rfl rfl rfl ?_
          refine C.aload S56 at_236 238 rfl rfl rfl ?_
          refine C.callVirtual S56 (S56.exa 9 rfl) (w116 hw) (w117 hw) (Or.inl (w119 hw)) (w119 hw) (w118 hw) (w33 hw) (w120 hw) (by decide) (rrLine_3_1 hw hCS hcs hD hDA b47 l49 ln50 ((((0 : Int32) + (1 : Int32)) + (1 : Int32)) + (1 : Int32)) b52 b7 b10 b13 p2 p3 p4 (S56.ne (i := 3) (j := 5) rfl rfl (by decide))) at_238 241 rfl rfl pd15 [(.ref b10)] [] rfl rfl rfl [9, 10, 11, 12] rfl (by decide) rfl [] rfl (leD rfl) (leD rfl) (leD rfl) (leD rfl) ?_
          rintro T65 _ _ _ ⟨rfl, rfl, rfl⟩ hro65 S65
          replace S65 := S65.as (L' := [(b1, Ary Z .char [(.int (p0 &&& (255 : Int32)))]), (b3, Ary Z .char [(.int y1)]), (b5, Ary Z .char [(.int y2)]), (b7, O_String Z (.int (0 : Int32)) (.ref b9)), (b9, Ary Z .byte [(.int (p0 &&& (255 : Int32)).toInt8.toInt32)]), (b10, O_String Z (.int (0 : Int32)) (.ref b12)), (b12, Ary Z .byte [(.int y1.toInt8.toInt32)]), (b13, O_String Z (.int (0 : Int32)) (.ref b15)), (b15, Ary Z .byte [(.int y2.toInt8.toInt32)]), (b47, O_RowsRead Z (.ref l49) (.ref ln50)), (l49, O_ArrayList Z (.int ((((0 : Int32) + (1 : Int32)) + (1 : Int32)) + (1 : Int32))) (.ref b52) (.int (3 : Int32))), (ln50, Ary Z .long [(.long p2), (.long p3), (.long p4), (.long (0 : Int64)), (.long (0 : Int64)), (.long (0 : Int64)), (.long (0 : Int64)), (.long (0 : Int64)), (.long (0 : Int64)), (.long (0 : Int64)), (.long (0 : Int64)), (.long (0 : Int64)), (.long (0 : Int64)), (.long (0 : Int64)), (.long (0 : Int64)), (.long (0 : Int64))]), (b52, AryR Z "java/lang/Object" [(.ref b7), (.ref b10), (.ref b13), .null, .null, .null, .null, .null, .null, .null])]) (M' := []) (cells' := 13) (slots' := 58) rfl rfl rfl rfl
          show Go p e below _ (T65.setTop (mkF m 241 #[.val (.int p0), .val (.int p1), .val (.long p2), .second, .val (.long p3), .second, .val (.long p4), .second, .val (.int (p0 &&& (255 : Int32))), .val (.int y1), .val (.int y2), .val (.ref b1), .val (.ref b3), .val (.ref b5), .val (.ref b7), .val (.ref b10), .val (.ref b13), .val (.int (3 : Int32)), .val (.ref b47), .val (.int (1 : Int32)), .val (.ref b10), .val (.long p3), .second] [(.long p3)]))
          refine C.lload S65 at_241 243 rfl rfl ?_
          refine C.lcmp S65 at_243 244 rfl (XT.cmpL p3 p3) rfl ?_
          refine C.if_ne S65 at_244 251 247 (by decide) (by decide) rfl (fun hc66 => absurd (own_c0 _) hc66) fun hc66 => ?_
          refine C.iconst S65 at_247 248 rfl (1 : Int32) rfl ?_
          refine C.goto S65 at_248 252 (by decide) (by decide) ?_
          exact C.retN S65 (by simp) at_252 (1 : Int32) (by decide) [] rfl (by decide) [] rfl fa0 ⟨rfl, rfl, rfl⟩ rfl (leD rfl) (leD rfl)
        · refine C.iloadN S56 at_174 175 rfl rfl ?_
          refine C.iconst S56 at_175 176 rfl (2 : Int32) rfl ?_
          refine C.iushr S56 at_176 177 rfl (XT.ushr p1 (2 : Int32)) rfl ?_
          refine C.ldcInt S56 (w115 hw) at_177 179 rfl ?_
          refine C.iand S56 at_179 180 rfl ((XT.ushr p1 (2 : Int32)) &&& (2147483647 : Int32)) rfl ?_
          refine C.iload S56 at_180 182 rfl rfl ?_
          refine C.irem S56 at_182 183 rfl (by decide) (2 : Int32) hk ?_
          refine C.istore S56 at_183 185 rfl #[.val (.int p0), .val (.int p1), .val (.long p2), .second, .val (.long p3), .second, .val (.long p4), .second, .val (.int (p0 &&& (255 : Int32))), .val (.int y1), .val (.int y2), .val (.ref b1), .val (.ref b3), .val (.ref b5), .val (.ref b7), .val (.ref b10), .val (.ref b13), .val (.int (3 : Int32)), .val (.ref b47), .val (.int (2 : Int32)), .unset, .unset, .unset] rfl ?_
          refine C.iload S56 at_185 187 rfl rfl ?_
          refine C.if_ne S56 at_187 195 190 (by decide) (by decide) rfl (fun hc67 => ?_) fun hc67 => absurd hc67 (by decide)
          refine C.iload S56 at_195 197 rfl rfl ?_
          refine C.iconst S56 at_197 198 rfl (1 : Int32) rfl ?_
          refine C.icmp_ne S56 at_198 206 201 (by decide) (by decide) rfl (fun hc68 => ?_) fun hc68 => absurd hc68 (by decide)
          refine C.aload S56 at_206 208 rfl rfl rfl ?_
          refine C.astore S56 at_208 210 rfl rfl #[.val (.int p0), .val (.int p1), .val (.long p2), .second, .val (.long p3), .second, .val (.long p4), .second, .val (.int (p0 &&& (255 : Int32))), .val (.int y1), .val (.int y2), .val (.ref b1), .val (.ref b3), .val (.ref b5), .val (.ref b7), .val (.ref b10), .val (.ref b13), .val (.int (3 : Int32)), .val (.ref b47), .val (.int (2 : Int32)), .val (.ref b13), .unset, .unset] rfl ?_
          refine C.iload S56 at_210 212 rfl rfl ?_
          refine C.if_ne S56 at_212 219 215 (by decide) (by decide) rfl (fun hc69 => ?_) fun hc69 => absurd hc69 (by decide)
          refine C.iload S56 at_219 221 rfl rfl ?_
          refine C.iconst S56 at_221 222 rfl (1 : Int32) rfl ?_
          refine C.icmp_ne S56 at_222 230 225 (by decide) (by decide) rfl (fun hc70 => ?_) fun hc70 => absurd hc70 (by decide)
          refine C.lload S56 at_230 232 rfl rfl ?_
          refine C.lstore S56 at_232 234 rfl #[.val (.int p0), .val (.int p1), .val (.long p2), .second, .val (.long p3), .second, .val (.long p4), .second, .val (.int (p0 &&& (255 : Int32))), .val (.int y1), .val (.int y2), .val (.ref b1), .val (.ref b3), .val (.ref b5), .val (.ref b7), .val (.ref b10), .val (.ref b13), .val (.int (3 : Int32)), .val (.ref b47), .val (.int (2 : Int32)), .val (.ref b13), .val (.long p4), .second] rfl ?_
          refine C.aload S56 at_234 236 rfl rfl rfl ?_
          refine C.aload S56 at_236 238 rfl rfl rfl ?_
          refine C.callVirtual S56 (S56.exa 9 rfl) (w116 hw) (w117 hw) (Or.inl (w119 hw)) (w119 hw) (w118 hw) (w33 hw) (w120 hw) (by decide) (rrLine_3_2 hw hCS hcs hD hDA b47 l49 ln50 ((((0 : Int32) + (1 : Int32)) + (1 : Int32)) + (1 : Int32)) b52 b7 b10 b13 p2 p3 p4 (S56.ne (i := 3) (j := 7) rfl rfl (by decide)) (S56.ne (i := 5) (j := 7) rfl rfl (by decide))) at_238 241 rfl rfl pd15 [(.ref b13)] [] rfl rfl rfl [9, 10, 11, 12] rfl (by decide) rfl [] rfl (leD rfl) (leD rfl) (leD rfl) (leD rfl) ?_
          rintro T71 _ _ _ ⟨rfl, rfl, rfl⟩ hro71 S71
          replace S71 := S71.as (L' := [(b1, Ary Z .char [(.int (p0 &&& (255 : Int32)))]), (b3, Ary Z .char [(.int y1)]), (b5, Ary Z .char [(.int y2)]), (b7, O_String Z (.int (0 : Int32)) (.ref b9)), (b9, Ary Z .byte [(.int (p0 &&& (255 : Int32)).toInt8.toInt32)]), (b10, O_String Z (.int (0 : Int32)) (.ref b12)), (b12, Ary Z .byte [(.int y1.toInt8.toInt32)]), (b13, O_String Z (.int (0 : Int32)) (.ref b15)), (b15, Ary Z .byte [(.int y2.toInt8.toInt32)]), (b47, O_RowsRead Z (.ref l49) (.ref ln50)), (l49, O_ArrayList Z (.int ((((0 : Int32) + (1 : Int32)) + (1 : Int32)) + (1 : Int32))) (.ref b52) (.int (3 : Int32))), (ln50, Ary Z .long [(.long p2), (.long p3), (.long p4), (.long (0 : Int64)), (.long (0 : Int64)), (.long (0 : Int64)), (.long (0 : Int64)), (.long (0 : Int64)), (.long (0 : Int64)), (.long (0 : Int64)), (.long (0 : Int64)), (.long (0 : Int64)), (.long (0 : Int64)), (.long (0 : Int64)), (.long (0 : Int64)), (.long (0 : Int64))]), (b52, AryR Z "java/lang/Object" [(.ref b7), (.ref b10), (.ref b13), .null, .null, .null, .null, .null, .null, .null])]) (M' := []) (cells' := 13) (slots' := 58) rfl rfl rfl rfl
          show Go p e below _ (T71.setTop (mkF m 241 #[.val (.int p0), .val (.int p1), .val (.long p2), .second, .val (.long p3), .second, .val (.long p4), .second, .val (.int (p0 &&& (255 : Int32))), .val (.int y1), .val (.int y2), .val (.ref b1), .val (.ref b3), .val (.ref b5), .val (.ref b7), .val (.ref b10), .val (.ref b13), .val (.int (3 : Int32)), .val (.ref b47), .val (.int (2 : Int32)), .val (.ref b13), .val (.long p4), .second] [(.long p4)]))
          refine C.lload S71 at_241 243 rfl rfl ?_
          refine C.lcmp S71 at_243 244 rfl (XT.cmpL p4 p4) rfl ?_
          refine C.if_ne S71 at_244 251 247 (by decide) (by decide) rfl (fun hc72 => absurd (own_c0 _) hc72) fun hc72 => ?_
          refine C.iconst S71 at_247 248 rfl (1 : Int32) rfl ?_
          refine C.goto S71 at_248 252 (by decide) (by decide) ?_
          exact C.retN S71 (by simp) at_252 (1 : Int32) (by decide) [] rfl (by decide) [] rfl fa0 ⟨rfl, rfl, rfl⟩ rfl (leD rfl) (leD rfl)
    · refine C.if_eq S0 at_36 44 39 (by decide) (by decide) rfl (fun hc73 => ?_) fun hc73 => ?_
      · refine C.iloadN S0 at_44 45 rfl rfl ?_
        refine C.bipush S0 at_45 47 rfl (18 : Int32) rfl ?_
        refine C.iushr S0 at_47 48 rfl (XT.ushr p0 (18 : Int32)) rfl ?_
        refine C.sipush S0 at_48 51 rfl (255 : Int32) rfl ?_
        refine C.iand S0 at_51 52 rfl ((XT.ushr p0 (18 : Int32)) &&& (255 : Int32)) rfl ?_
        refine C.i2c S0 at_52 53 rfl ((XT.ushr p0 (18 : Int32)) &&& (255 : Int32)) (i2c_mask _) ?_
        exact key53 _ (byte255 _)
      · refine C.iload S0 at_39 41 rfl rfl ?_
        refine C.goto S0 at_41 53 (by decide) (by decide) ?_
        exact key53 _ (byte255 _)
  · refine C.if_eq S0 at_13 21 16 (by decide) (by decide) rfl (fun hc74 => ?_) fun hc74 => ?_
    · refine C.iloadN S0 at_21 22 rfl rfl ?_
      refine C.bipush S0 at_22 24 rfl (9 : Int32) rfl ?_
      refine C.iushr S0 at_24 25 rfl (XT.ushr p0 (9 : Int32)) rfl ?_
      refine C.sipush S0 at_25 28 rfl (255 : Int32) rfl ?_
      refine C.iand S0 at_28 29 rfl ((XT.ushr p0 (9 : Int32)) &&& (255 : Int32)) rfl ?_
      refine C.i2c S0 at_29 30 rfl ((XT.ushr p0 (9 : Int32)) &&& (255 : Int32)) (i2c_mask _) ?_
      exact key30 _ (byte255 _)
    · refine C.iload S0 at_16 18 rfl rfl ?_
      refine C.goto S0 at_18 30 (by decide) (by decide) ?_
      exact key30 _ (byte255 _)
set_option maxRecDepth 65536 in
set_option maxHeartbeats 40000000 in
theorem comes_1 {Post : Tables → Env → Array Value → State → Outcome → State → Prop} (hpost : ∀ tb e args s v u, (limb_1_1.after args s (.returned v) u = true ∧ limb_1_2.after args s (.returned v) u = true ∧ True) → FrameEnd s (.returned v) u (Jvm.fieldLocs frame_1_writes args s ++ Jvm.arrayLocs frame_1_arrays args s ++ Jvm.staticLocs frame_1_statics s) 40 192 → Post tb e args s (.returned v) u) :
    ArmFor flags0 classFile x code maxLocals ret World_1 tables_1 room_1 Calls_1 rest_1 Pre_1 Post := by
  intro l hfl _ _ p e ha hc hk s m args below hf hA hF happ hP
  obtain ⟨hcalls, hrest, hpre⟩ := hP
  obtain ⟨-, -, -, hnamed, -, -, -, hat⟩ := (Spec.applies_iff hf).mp happ
  obtain ⟨hg, hn⟩ := and_e (Cond.before_iff.mp (show (Jvm.Cond.and given_1 narrow_1).before args s = true from hpre))
  obtain ⟨h1, h2⟩ := and_e hg
  obtain ⟨w0, w1, w2, w3, w4, rfl⟩ : ∃ w0 w1 w2 w3 w4 : Value, args = #[w0, w1, w2, w3, w4] := by
    have hs : args.size = 5 := by simpa [Cond.value, given_1] using h1
    obtain ⟨L⟩ := args
    match L, hs with
    | [w0, w1, w2, w3, w4], _ => exact ⟨w0, w1, w2, w3, w4, rfl⟩
  obtain ⟨g0, h3⟩ := and_e h2
  obtain ⟨g1, h4⟩ := and_e h3
  obtain ⟨g2, h5⟩ := and_e h4
  obtain ⟨g3, h6⟩ := and_e h5
  have g4 := h6
  obtain ⟨i0, e0⟩ := is_v g0
  obtain rfl : w0 = (.int i0) := Option.some.inj e0
  obtain ⟨i1, e1⟩ := is_v g1
  obtain rfl : w1 = (.int i1) := Option.some.inj e1
  obtain ⟨i2, e2⟩ := isL_v g2
  obtain rfl : w2 = (.long i2) := Option.some.inj e2
  obtain ⟨i3, e3⟩ := isL_v g3
  obtain rfl : w3 = (.long i3) := Option.some.inj e3
  obtain ⟨i4, e4⟩ := isL_v g4
  obtain rfl : w4 = (.long i4) := Option.some.inj e4
  have hw : Hw _ s := fun d (hd : d ∈ tables_1) => Jvm.LawKit.atoms_spec (ws := Jvm.Cond.code x code maxLocals ret :: tables_1) hat d (List.mem_cons_of_mem _ hd)
  obtain ⟨hsets, hown0⟩ := atoms_of _ (rest_1_c_eq ▸ (show rest_1_c.before _ s = true from hrest))
  have hfit : Fit s := fun {y c} hc i hi => by
    obtain ⟨ha, rfl⟩ := Array.getElem?_eq_some_iff.mp hc
    have q := List.all_eq_true.mp ((Array.all_eq_true_iff_forall_mem.mp hF) _ (Array.getElem_mem ha)) i (List.mem_range.mpr hi)
    simpa [Array.getElem?_eq_getElem hi] using q
  have nCS := not_v (Cond.before_iff.mp (hsets _ (List.mem_of_getElem? (i := 2) rfl)))
  obtain ⟨iCS, eCS⟩ := is_v (Cond.before_iff.mp (hsets _ (List.mem_of_getElem? (i := 1) rfl)))
  have hCS : Sta s s.heap "java/lang/String" "COMPACT_STRINGS" "Z" (.int iCS) := Sta.start eCS (Or.inl (hsets _ (List.mem_of_getElem? (i := 0) rfl)))
  have hcs : ¬ (iCS = (0 : Int32)) := gotF (Cond.eq_ints eCS (Term.int_eval (0))) nCS
  have vA := Cond.before_iff.mp (hsets _ (List.mem_of_getElem? (i := 15) rfl))
  obtain ⟨dc, eD⟩ := arr_v vA
  have hD : Sta s s.heap "java/util/ArrayList" "DEFAULTCAPACITY_EMPTY_ELEMENTDATA" "[Ljava/lang/Object;" (.ref dc) := Sta.start eD (Or.inr ⟨(w40 hw), hsets _ (List.mem_of_getElem? (i := 11) rfl)⟩)
  obtain ⟨cD, aD⟩ := Arr.start eD vA
  have hDA : ∃ c, s.heap[dc]? = some c ∧ Ary s (.object "java/lang/Object") [] c := own_empty eD aD (Cond.before_iff.mp (hsets _ (List.mem_of_getElem? (i := 17) rfl)))
  obtain ⟨n, o, k1, k2, k3, _, Lc, rfl, ⟨N, -, -, L1, M1, ⟨rfl, -, -⟩, -⟩, hq⟩ := law hw hCS hcs hD hDA i0 i1 i2 i3 i4 tables_1 s.heap (Old.start s) (Good.nil _ _) (fun _ q => nomatch q) p e ha hc hk s m _ below hf ((Spec.applies_iff_loose hf).mp happ).1 ⟨rfl, State.Warmed39.refl s, rfl⟩ trivial
  refine ⟨n, _, k1, k2, k3, hpost _ _ _ _ _ _ ⟨Cond.after_iff.mpr rfl, Cond.after_iff.mpr (eq_i res_at (Term.int_eval (1)) rfl), trivial⟩ ⟨hq.1, hq.2.1, (hq.2.2.sift fun y hy => Or.inr (N y hy)).mono (by decide) (by decide)⟩⟩
theorem main_1_1 : Claimed_1_1 := comes_1 fun _ _ _ _ _ _ h hF => ⟨h.1, hF⟩
theorem main_1_2 : Claimed_1_2 := comes_1 fun _ _ _ _ _ _ h hF => ⟨h.2.1, hF⟩
end Jvm.Pilot.@@N@@
namespace Jvm.Pilot.@@N@@
open Jvm Jvm.ClassFile Sem Op Lib Jvm.Free Jvm.Stand Jvm.Pilot.@@N@@.Jvm.D
/-! MADE BY PROGRAM (witnessworld.py) out of the Statement's table words and the real class files: 33 classes; the members and pool entries that the words name. The judged class is class 1, her method 1. -/
namespace start1
open Jvm.ClassFile
def u (s : String) : CpInfo := .utf8 (stringToUtf16 s)
/-- a pool by its gaps: so many unusable entries, then the entry; so many at the end -/
def gap : Nat → List CpInfo → List CpInfo
  | 0, r => r
  | n + 1, r => .unusable :: gap n r
def poolList (es : List (Nat × CpInfo)) (last : Nat) : List CpInfo := es.foldr (fun e r => gap e.1 (e.2 :: r)) (gap last [])
def pool (es : List (Nat × CpInfo)) (last : Nat) : Array CpInfo := ⟨poolList es last⟩
def fileOf (pool : Array CpInfo) (this : Nat) (attrs : Array Attribute := #[]) (ms : Array MethodInfo := #[]) (fl : Nat := 33) (sup : Nat := 0) (ifs : Array Nat := #[]) (fds : Array FieldInfo := #[]) : ClassFile where
  minorVersion := 0
  majorVersion := 65
  constantPool := pool
  accessFlags := fl
  thisClass := this
  superClass := sup
  interfaces := ifs
  fields := fds
  methods := ms
  attributes := attrs
def plain (name : String) (sup : Option ClassId) : Class where
  name := name
  kind := .ordinary
  loader := none
  accessFlags := 33
  super := sup
  interfaces := #[]
  cf := none
  fields := #[]
  methods := #[]
  instanceTypes := #[]
  staticTypes := #[]
  resolved := #[]
  callSites := []
  init := .initialized
  statics := none
  mirror := none

def pool0 : Array CpInfo := pool [(5, u "<init>"), (0, u "()V"), (1, .class_ 10), (1, u "java/lang/Object")] 113

def k0c0 : Code := { maxStack := 0, maxLocals := 1, code := object_method_1_code, exceptionTable := #[], attributes := #[] }
def k0m0 : Method := { name := "<init>", desc := "()V", sig := { parameters := [], returnType := none }, accessFlags := 1, code := some k0c0 }
/-- java/lang/Object -/
def k0 : Class := { plain "java/lang/Object" none with
  accessFlags := 33
  interfaces := #[]
  cf := some (fileOf pool0 8 #[] #[{ accessFlags := 1, nameIndex := 5, descriptorIndex := 6, attributes := #[] }] 33 0 #[] #[])
  fields := #[]
  methods := #[k0m0]
  instanceTypes := #[]
  staticTypes := #[]
  resolved := Array.replicate 124 none
  statics := none }

def pool1 : Array CpInfo := pool [(2, .class_ 4), (0, .nameAndType 5 6), (0, u "java/lang/Object"), (0, u "<init>"), (0, u "()V"), (0, .integer 131072), (0, .class_ 9), (0, u "java/lang/String"), (0, .methodref 8 11), (0, .nameAndType 5 12), (0, u "([C)V"), (0, .class_ 14), (0, u "com/example/exdate/exdate/cli/RowsRead"), (0, .methodref 13 3), (0, .methodref 13 17), (0, .nameAndType 18 19), (0, u "add"), (0, u "(Ljava/lang/Object;J)V"), (0, .integer 2147483647), (0, .methodref 13 22), (0, .nameAndType 23 24), (0, u "line"), (0, u "(Ljava/lang/Object;)J"), (0, .class_ 26), (0, u "com/example/exdate/exdate/cli/RowsReadLinePinLaw"), (2, u "law"), (0, u "(IIJJJ)Z")] 5

def k1m0 : Method := { name := "<init>", desc := "()V", sig := { parameters := [], returnType := none }, accessFlags := 1, code := none }
def k1c1 : Code := { maxStack := 4, maxLocals := 23, code := code, exceptionTable := #[], attributes := #[] }
def k1m1 : Method := { name := "law", desc := "(IIJJJ)Z", sig := { parameters := [.int, .int, .long, .long, .long], returnType := some .boolean }, accessFlags := 9, code := some k1c1 }
/-- com/example/exdate/exdate/cli/RowsReadLinePinLaw -/
def k1 : Class := { plain "com/example/exdate/exdate/cli/RowsReadLinePinLaw" (some 0) with
  accessFlags := 49
  interfaces := #[]
  cf := some (fileOf pool1 25 #[] #[{ accessFlags := 1, nameIndex := 5, descriptorIndex := 6, attributes := #[] }, { accessFlags := 9, nameIndex := 29, descriptorIndex := 30, attributes := #[] }] 49 2 #[] #[])
  fields := #[]
  methods := #[k1m0, k1m1]
  instanceTypes := #[]
  staticTypes := #[]
  resolved := Array.replicate 36 none
  statics := none }

def pool2 : Array CpInfo := pool [(1, .class_ 2), (0, u "java/io/Serializable"), (0, .class_ 4), (0, u "java/lang/Object")] 2

/-- java/io/Serializable -/
def k2 : Class := { plain "java/io/Serializable" (some 0) with
  accessFlags := 1537
  interfaces := #[]
  cf := some (fileOf pool2 1 #[] #[] 1537 3 #[] #[])
  fields := #[]
  methods := #[]
  instanceTypes := #[]
  staticTypes := #[]
  resolved := Array.replicate 7 none
  statics := none }

def pool3 : Array CpInfo := pool [(1, .class_ 2), (0, u "java/lang/Comparable"), (0, .class_ 4), (0, u "java/lang/Object")] 7

/-- java/lang/Comparable -/
def k3 : Class := { plain "java/lang/Comparable" (some 0) with
  accessFlags := 1537
  interfaces := #[]
  cf := some (fileOf pool3 1 #[] #[] 1537 3 #[] #[])
  fields := #[]
  methods := #[]
  instanceTypes := #[]
  staticTypes := #[]
  resolved := Array.replicate 12 none
  statics := none }

def pool4 : Array CpInfo := pool [(2, .class_ 4), (1, u "java/lang/CharSequence"), (42, .class_ 48), (0, u "java/lang/CharSequence$1CodePointIterator"), (10, .class_ 60), (0, u "java/lang/CharSequence$1CharIterator"), (5, .class_ 67), (0, u "java/lang/Object")] 63

/-- java/lang/CharSequence -/
def k4 : Class := { plain "java/lang/CharSequence" (some 0) with
  accessFlags := 1537
  interfaces := #[]
  cf := some (fileOf pool4 2 #[.nestMembers #[47, 59]] #[] 1537 66 #[] #[])
  fields := #[]
  methods := #[]
  instanceTypes := #[]
  staticTypes := #[]
  resolved := Array.replicate 131 none
  statics := none }

def pool5 : Array CpInfo := pool [(1, .class_ 2), (0, u "java/lang/constant/Constable"), (0, .class_ 4), (0, u "java/lang/Object")] 6

/-- java/lang/constant/Constable -/
def k5 : Class := { plain "java/lang/constant/Constable" (some 0) with
  accessFlags := 1537
  interfaces := #[]
  cf := some (fileOf pool5 1 #[] #[] 1537 3 #[] #[])
  fields := #[]
  methods := #[]
  instanceTypes := #[]
  staticTypes := #[]
  resolved := Array.replicate 11 none
  statics := none }

def pool6 : Array CpInfo := pool [(1, .class_ 2), (0, u "java/lang/constant/ConstantDesc"), (0, .class_ 4), (0, u "java/lang/Object")] 32

/-- java/lang/constant/ConstantDesc -/
def k6 : Class := { plain "java/lang/constant/ConstantDesc" (some 0) with
  accessFlags := 1537
  interfaces := #[]
  cf := some (fileOf pool6 1 #[] #[] 1537 3 #[] #[])
  fields := #[]
  methods := #[]
  instanceTypes := #[]
  staticTypes := #[]
  resolved := Array.replicate 37 none
  statics := none }

def pool7 : Array CpInfo := pool [(1, .methodref 2 3), (0, .class_ 4), (0, .nameAndType 5 6), (0, u "java/lang/Object"), (0, u "<init>"), (0, u "()V"), (2, .fieldref 10 11), (0, .class_ 12), (0, .nameAndType 13 14), (0, u "java/lang/String"), (0, u "value"), (0, u "[B"), (0, .fieldref 10 16), (0, .nameAndType 17 18), (0, u "coder"), (0, u "B"), (2, u "hash"), (0, u "I"), (2, u "hashIsZero"), (0, u "Z"), (0, .methodref 10 28), (0, .nameAndType 5 29), (0, u "([CIILjava/lang/Void;)V"), (8, .fieldref 10 39), (0, .nameAndType 40 26), (0, u "COMPACT_STRINGS"), (1, .class_ 44), (1, u "java/lang/StringUTF16"), (0, u "compress"), (1, .methodref 42 48), (0, .nameAndType 49 50), (0, u "coderFromArrayLen"), (0, u "([BI)B"), (126, .methodref 42 178), (0, .nameAndType 45 179), (0, u "([CII)[B"), (395, .class_ 576), (0, u "java/lang/CharSequence"), (22, u "CASE_INSENSITIVE_ORDER"), (0, u "Ljava/util/Comparator;"), (409, u "([C)V"), (90, u "serialPersistentFields"), (0, u "[Ljava/io/ObjectStreamField;"), (0, .class_ 1104), (0, u "java/lang/String$CaseInsensitiveComparator"), (1, .class_ 1107), (0, u "java/io/Serializable"), (0, .class_ 1109), (0, u "java/lang/Comparable"), (0, .class_ 1111), (0, u "java/lang/constant/Constable"), (0, .class_ 1113), (0, u "java/lang/constant/ConstantDesc"), (2, u "serialVersionUID"), (0, u "J"), (3, u "REPL"), (0, u "C"), (2, u "LATIN1"), (1, u "UTF16")] 323

def k7m0 : Method := { name := "<init>", desc := "()V", sig := { parameters := [], returnType := none }, accessFlags := 1, code := none }
def k7c1 : Code := { maxStack := 5, maxLocals := 2, code := jdk_42_method_3_code, exceptionTable := #[], attributes := #[] }
def k7m1 : Method := { name := "<init>", desc := "([C)V", sig := { parameters := [(.array .char)], returnType := none }, accessFlags := 1, code := some k7c1 }
def k7c2 : Code := { maxStack := 4, maxLocals := 6, code := jdk_42_method_149_code, exceptionTable := #[], attributes := #[] }
def k7m2 : Method := { name := "<init>", desc := "([CIILjava/lang/Void;)V", sig := { parameters := [(.array .char), .int, .int, (.object "java/lang/Void")], returnType := none }, accessFlags := 2, code := some k7c2 }
/-- java/lang/String -/
def k7 : Class := { plain "java/lang/String" (some 0) with
  accessFlags := 49
  interfaces := #[2, 3, 4, 5, 6]
  cf := some (fileOf pool7 10 #[.nestMembers #[1103]] #[{ accessFlags := 1, nameIndex := 5, descriptorIndex := 6, attributes := #[] }, { accessFlags := 1, nameIndex := 5, descriptorIndex := 1010, attributes := #[] }, { accessFlags := 2, nameIndex := 5, descriptorIndex := 29, attributes := #[] }] 49 2 #[1106, 1108, 575, 1110, 1112] #[{ accessFlags := 18, nameIndex := 13, descriptorIndex := 14, attributes := #[] }, { accessFlags := 18, nameIndex := 17, descriptorIndex := 18, attributes := #[] }, { accessFlags := 2, nameIndex := 21, descriptorIndex := 22, attributes := #[] }, { accessFlags := 2, nameIndex := 25, descriptorIndex := 26, attributes := #[] }, { accessFlags := 26, nameIndex := 1116, descriptorIndex := 1117, attributes := #[] }, { accessFlags := 24, nameIndex := 40, descriptorIndex := 26, attributes := #[] }, { accessFlags := 26, nameIndex := 1101, descriptorIndex := 1102, attributes := #[] }, { accessFlags := 26, nameIndex := 1121, descriptorIndex := 1122, attributes := #[] }, { accessFlags := 25, nameIndex := 599, descriptorIndex := 600, attributes := #[] }, { accessFlags := 24, nameIndex := 1125, descriptorIndex := 18, attributes := #[] }, { accessFlags := 24, nameIndex := 1127, descriptorIndex := 18, attributes := #[] }])
  fields := #[{ name := "value", type := (.array .byte), accessFlags := 18, slot := 0, constantValue := 0 }, { name := "coder", type := .byte, accessFlags := 18, slot := 1, constantValue := 0 }, { name := "hash", type := .int, accessFlags := 2, slot := 2, constantValue := 0 }, { name := "hashIsZero", type := .boolean, accessFlags := 2, slot := 3, constantValue := 0 }, { name := "serialVersionUID", type := .long, accessFlags := 26, slot := 0, constantValue := 0 }, { name := "COMPACT_STRINGS", type := .boolean, accessFlags := 24, slot := 1, constantValue := 0 }, { name := "serialPersistentFields", type := (.array (.object "java/io/ObjectStreamField")), accessFlags := 26, slot := 2, constantValue := 0 }, { name := "REPL", type := .char, accessFlags := 26, slot := 3, constantValue := 0 }, { name := "CASE_INSENSITIVE_ORDER", type := (.object "java/util/Comparator"), accessFlags := 25, slot := 4, constantValue := 0 }, { name := "LATIN1", type := .byte, accessFlags := 24, slot := 5, constantValue := 0 }, { name := "UTF16", type := .byte, accessFlags := 24, slot := 6, constantValue := 0 }]
  methods := #[k7m0, k7m1, k7m2]
  instanceTypes := #[(.array .byte), .byte, .int, .boolean]
  staticTypes := #[.long, .boolean, (.array (.object "java/io/ObjectStreamField")), .char, (.object "java/util/Comparator"), .byte, .byte]
  resolved := Array.replicate 1451 none
  statics := some 0 }

def pool8 : Array CpInfo := pool [(6, .class_ 8), (1, u "java/lang/Object"), (0, u "<init>"), (0, u "()V"), (1, .class_ 14), (1, u "java/lang/StringUTF16"), (31, u "$assertionsDisabled"), (0, u "Z"), (13, u "HI_BYTE_SHIFT"), (0, u "I"), (2, u "LO_BYTE_SHIFT"), (49, .methodref 12 116), (0, .nameAndType 117 118), (0, u "compress"), (0, u "([CI[BII)I"), (3, u "([CII)[B"), (138, u "coderFromArrayLen"), (0, u "([BI)B"), (106, .class_ 371), (1, u "java/lang/StringUTF16$LinesSpliterator"), (58, u "MAX_LENGTH"), (196, .class_ 628), (0, u "java/lang/StringUTF16$CodePointsSpliterator"), (0, .class_ 630), (0, u "java/lang/StringUTF16$CharsSpliterator")] 4

def k8m0 : Method := { name := "<init>", desc := "()V", sig := { parameters := [], returnType := none }, accessFlags := 0, code := none }
def k8c1 : Code := { maxStack := 2, maxLocals := 2, code := jdk_52_method_15_code, exceptionTable := #[], attributes := #[] }
def k8m1 : Method := { name := "coderFromArrayLen", desc := "([BI)B", sig := { parameters := [(.array .byte), .int], returnType := some .byte }, accessFlags := 8, code := some k8c1 }
def k8c2 : Code := { maxStack := 5, maxLocals := 6, code := jdk_52_method_16_code, exceptionTable := #[], attributes := #[] }
def k8m2 : Method := { name := "compress", desc := "([CII)[B", sig := { parameters := [(.array .char), .int, .int], returnType := some (.array .byte) }, accessFlags := 9, code := some k8c2 }
def k8c3 : Code := { maxStack := 3, maxLocals := 7, code := jdk_52_method_21_code, exceptionTable := #[], attributes := #[] }
def k8m3 : Method := { name := "compress", desc := "([CI[BII)I", sig := { parameters := [(.array .char), .int, (.array .byte), .int, .int], returnType := some .int }, accessFlags := 9, code := some k8c3 }
/-- java/lang/StringUTF16 -/
def k8 : Class := { plain "java/lang/StringUTF16" (some 0) with
  accessFlags := 48
  interfaces := #[]
  cf := some (fileOf pool8 12 #[.nestMembers #[627, 629, 369]] #[{ accessFlags := 0, nameIndex := 9, descriptorIndex := 10, attributes := #[] }, { accessFlags := 8, nameIndex := 261, descriptorIndex := 262, attributes := #[] }, { accessFlags := 9, nameIndex := 117, descriptorIndex := 122, attributes := #[] }, { accessFlags := 9, nameIndex := 117, descriptorIndex := 118, attributes := #[] }] 48 6 #[] #[{ accessFlags := 26, nameIndex := 61, descriptorIndex := 62, attributes := #[] }, { accessFlags := 26, nameIndex := 65, descriptorIndex := 62, attributes := #[] }, { accessFlags := 24, nameIndex := 430, descriptorIndex := 62, attributes := #[] }, { accessFlags := 4120, nameIndex := 46, descriptorIndex := 47, attributes := #[] }])
  fields := #[{ name := "HI_BYTE_SHIFT", type := .int, accessFlags := 26, slot := 0, constantValue := 0 }, { name := "LO_BYTE_SHIFT", type := .int, accessFlags := 26, slot := 1, constantValue := 0 }, { name := "MAX_LENGTH", type := .int, accessFlags := 24, slot := 2, constantValue := 0 }, { name := "$assertionsDisabled", type := .boolean, accessFlags := 4120, slot := 3, constantValue := 0 }]
  methods := #[k8m0, k8m1, k8m2, k8m3]
  instanceTypes := #[]
  staticTypes := #[.int, .int, .int, .boolean]
  resolved := Array.replicate 635 none
  statics := none }

def pool9 : Array CpInfo := pool [(1, .methodref 2 3), (0, .class_ 4), (0, .nameAndType 5 6), (0, u "java/lang/Object"), (0, u "<init>"), (0, u "()V"), (0, .class_ 8), (0, u "java/util/ArrayList"), (0, .methodref 7 3), (0, .fieldref 11 12), (0, .class_ 13), (0, .nameAndType 14 15), (0, u "com/example/exdate/exdate/cli/RowsRead"), (0, u "made"), (0, u "Ljava/util/List;"), (0, .fieldref 11 17), (0, .nameAndType 18 19), (0, u "lines"), (0, u "[J"), (0, .interfaceMethodref 21 22), (0, .class_ 23), (0, .nameAndType 24 25), (0, u "java/util/List"), (0, u "size"), (0, u "()I"), (6, .interfaceMethodref 21 33), (0, .nameAndType 34 35), (0, u "add"), (0, u "(Ljava/lang/Object;)Z"), (6, .interfaceMethodref 21 43), (0, .nameAndType 44 45), (0, u "get"), (0, u "(I)Ljava/lang/Object;"), (19, u "(Ljava/lang/Object;J)V"), (5, u "line"), (0, u "(Ljava/lang/Object;)J")] 19

def k9c0 : Code := { maxStack := 3, maxLocals := 1, code := prog_89_method_1_code, exceptionTable := #[], attributes := #[] }
def k9m0 : Method := { name := "<init>", desc := "()V", sig := { parameters := [], returnType := none }, accessFlags := 0, code := some k9c0 }
def k9c1 : Code := { maxStack := 4, maxLocals := 4, code := prog_89_method_2_code, exceptionTable := #[], attributes := #[] }
def k9m1 : Method := { name := "add", desc := "(Ljava/lang/Object;J)V", sig := { parameters := [(.object "java/lang/Object"), .long], returnType := none }, accessFlags := 0, code := some k9c1 }
def k9c2 : Code := { maxStack := 3, maxLocals := 3, code := prog_89_method_4_code, exceptionTable := #[], attributes := #[] }
def k9m2 : Method := { name := "line", desc := "(Ljava/lang/Object;)J", sig := { parameters := [(.object "java/lang/Object")], returnType := some .long }, accessFlags := 0, code := some k9c2 }
/-- com/example/exdate/exdate/cli/RowsRead -/
def k9 : Class := { plain "com/example/exdate/exdate/cli/RowsRead" (some 0) with
  accessFlags := 32
  interfaces := #[]
  cf := some (fileOf pool9 11 #[] #[{ accessFlags := 0, nameIndex := 5, descriptorIndex := 6, attributes := #[] }, { accessFlags := 0, nameIndex := 34, descriptorIndex := 65, attributes := #[] }, { accessFlags := 0, nameIndex := 71, descriptorIndex := 72, attributes := #[] }] 32 2 #[] #[{ accessFlags := 18, nameIndex := 14, descriptorIndex := 15, attributes := #[] }, { accessFlags := 2, nameIndex := 18, descriptorIndex := 19, attributes := #[] }])
  fields := #[{ name := "made", type := (.object "java/util/List"), accessFlags := 18, slot := 0, constantValue := 0 }, { name := "lines", type := (.array .long), accessFlags := 2, slot := 1, constantValue := 0 }]
  methods := #[k9m0, k9m1, k9m2]
  instanceTypes := #[(.object "java/util/List"), (.array .long)]
  staticTypes := #[]
  resolved := Array.replicate 92 none
  statics := none }

def pool10 : Array CpInfo := pool [(8, .class_ 10), (1, u "java/lang/Iterable"), (24, .class_ 36), (0, u "java/lang/Object")] 25

/-- java/lang/Iterable -/
def k10 : Class := { plain "java/lang/Iterable" (some 0) with
  accessFlags := 1537
  interfaces := #[]
  cf := some (fileOf pool10 8 #[] #[] 1537 35 #[] #[])
  fields := #[]
  methods := #[]
  instanceTypes := #[]
  staticTypes := #[]
  resolved := Array.replicate 62 none
  statics := none }

def pool11 : Array CpInfo := pool [(10, .class_ 12), (1, u "java/util/Collection"), (47, .class_ 61), (0, u "java/lang/Object"), (0, .class_ 63), (0, u "java/lang/Iterable")] 51

/-- java/util/Collection -/
def k11 : Class := { plain "java/util/Collection" (some 0) with
  accessFlags := 1537
  interfaces := #[10]
  cf := some (fileOf pool11 10 #[] #[] 1537 60 #[62] #[])
  fields := #[]
  methods := #[]
  instanceTypes := #[]
  staticTypes := #[]
  resolved := Array.replicate 115 none
  statics := none }

def pool12 : Array CpInfo := pool [(1, .methodref 2 3), (0, .class_ 4), (0, .nameAndType 5 6), (0, u "java/lang/Object"), (0, u "<init>"), (0, u "()V"), (1, .class_ 10), (1, u "java/util/AbstractCollection"), (66, .class_ 78), (0, u "java/util/Collection")] 81

def k12c0 : Code := { maxStack := 1, maxLocals := 1, code := jdk_22_method_1_code, exceptionTable := #[], attributes := #[] }
def k12m0 : Method := { name := "<init>", desc := "()V", sig := { parameters := [], returnType := none }, accessFlags := 4, code := some k12c0 }
/-- java/util/AbstractCollection -/
def k12 : Class := { plain "java/util/AbstractCollection" (some 0) with
  accessFlags := 1057
  interfaces := #[11]
  cf := some (fileOf pool12 8 #[] #[{ accessFlags := 4, nameIndex := 5, descriptorIndex := 6, attributes := #[] }] 1057 2 #[77] #[])
  fields := #[]
  methods := #[k12m0]
  instanceTypes := #[]
  staticTypes := #[]
  resolved := Array.replicate 160 none
  statics := none }

def pool13 : Array CpInfo := pool [(8, .class_ 10), (1, u "java/util/SequencedCollection"), (15, .class_ 27), (0, u "java/lang/Object"), (0, .class_ 29), (0, u "java/util/Collection")] 27

/-- java/util/SequencedCollection -/
def k13 : Class := { plain "java/util/SequencedCollection" (some 0) with
  accessFlags := 1537
  interfaces := #[11]
  cf := some (fileOf pool13 8 #[] #[] 1537 26 #[28] #[])
  fields := #[]
  methods := #[]
  instanceTypes := #[]
  staticTypes := #[]
  resolved := Array.replicate 57 none
  statics := none }

def pool14 : Array CpInfo := pool [(8, .class_ 10), (1, u "java/util/List"), (49, u "add"), (3, u "(Ljava/lang/Object;)Z"), (10, u "get"), (0, u "(I)Ljava/lang/Object;"), (2, u "size"), (0, u "()I"), (22, .class_ 104), (0, u "java/lang/Object"), (15, .class_ 121), (0, u "java/util/SequencedCollection")] 129

def k14m0 : Method := { name := "size", desc := "()I", sig := { parameters := [], returnType := some .int }, accessFlags := 1025, code := none }
def k14m1 : Method := { name := "add", desc := "(Ljava/lang/Object;)Z", sig := { parameters := [(.object "java/lang/Object")], returnType := some .boolean }, accessFlags := 1025, code := none }
def k14m2 : Method := { name := "get", desc := "(I)Ljava/lang/Object;", sig := { parameters := [.int], returnType := some (.object "java/lang/Object") }, accessFlags := 1025, code := none }
/-- java/util/List -/
def k14 : Class := { plain "java/util/List" (some 0) with
  accessFlags := 1537
  interfaces := #[13]
  cf := some (fileOf pool14 8 #[] #[{ accessFlags := 1025, nameIndex := 79, descriptorIndex := 80, attributes := #[] }, { accessFlags := 1025, nameIndex := 60, descriptorIndex := 64, attributes := #[] }, { accessFlags := 1025, nameIndex := 75, descriptorIndex := 76, attributes := #[] }] 1537 103 #[120] #[])
  fields := #[]
  methods := #[k14m0, k14m1, k14m2]
  instanceTypes := #[]
  staticTypes := #[]
  resolved := Array.replicate 251 none
  statics := none }

def pool15 : Array CpInfo := pool [(1, .methodref 2 3), (0, .class_ 4), (0, .nameAndType 5 6), (0, u "java/util/AbstractCollection"), (0, u "<init>"), (0, u "()V"), (0, .fieldref 8 9), (0, .class_ 10), (0, .nameAndType 11 12), (0, u "java/util/AbstractList"), (0, u "modCount"), (0, u "I"), (64, .class_ 78), (0, u "java/util/AbstractList$Itr"), (3, .class_ 83), (0, u "java/util/AbstractList$ListItr"), (9, .class_ 94), (0, u "java/util/AbstractList$RandomAccessSubList"), (3, .class_ 99), (0, u "java/util/AbstractList$SubList"), (33, .class_ 134), (0, u "java/util/List"), (73, .class_ 209), (0, u "java/util/AbstractList$SubList$1"), (0, .class_ 211), (0, u "java/util/AbstractList$RandomAccessSpliterator")] 6

def k15c0 : Code := { maxStack := 2, maxLocals := 1, code := jdk_39_method_1_code, exceptionTable := #[], attributes := #[] }
def k15m0 : Method := { name := "<init>", desc := "()V", sig := { parameters := [], returnType := none }, accessFlags := 4, code := some k15c0 }
/-- java/util/AbstractList -/
def k15 : Class := { plain "java/util/AbstractList" (some 12) with
  accessFlags := 1057
  interfaces := #[14]
  cf := some (fileOf pool15 8 #[.nestMembers #[93, 98, 208, 210, 82, 77]] #[{ accessFlags := 4, nameIndex := 5, descriptorIndex := 6, attributes := #[] }] 1057 2 #[133] #[{ accessFlags := 132, nameIndex := 11, descriptorIndex := 12, attributes := #[] }])
  fields := #[{ name := "modCount", type := .int, accessFlags := 132, slot := 0, constantValue := 0 }]
  methods := #[k15m0]
  instanceTypes := #[.int]
  staticTypes := #[]
  resolved := Array.replicate 218 none
  statics := none }

def pool16 : Array CpInfo := pool [(1, .class_ 2), (0, u "java/util/RandomAccess"), (0, .class_ 4), (0, u "java/lang/Object")] 2

/-- java/util/RandomAccess -/
def k16 : Class := { plain "java/util/RandomAccess" (some 0) with
  accessFlags := 1537
  interfaces := #[]
  cf := some (fileOf pool16 1 #[] #[] 1537 3 #[] #[])
  fields := #[]
  methods := #[]
  instanceTypes := #[]
  staticTypes := #[]
  resolved := Array.replicate 7 none
  statics := none }

def pool17 : Array CpInfo := pool [(1, .class_ 2), (0, u "java/lang/Cloneable"), (0, .class_ 4), (0, u "java/lang/Object")] 2

/-- java/lang/Cloneable -/
def k17 : Class := { plain "java/lang/Cloneable" (some 0) with
  accessFlags := 1537
  interfaces := #[]
  cf := some (fileOf pool17 1 #[] #[] 1537 3 #[] #[])
  fields := #[]
  methods := #[]
  instanceTypes := #[]
  staticTypes := #[]
  resolved := Array.replicate 7 none
  statics := none }

def pool18 : Array CpInfo := pool [(1, .methodref 2 3), (0, .class_ 4), (0, .nameAndType 5 6), (0, u "java/util/AbstractList"), (0, u "<init>"), (0, u "()V"), (0, .class_ 8), (0, u "java/lang/Object"), (0, .fieldref 10 11), (0, .class_ 12), (0, .nameAndType 13 14), (0, u "java/util/ArrayList"), (0, u "elementData"), (0, u "[Ljava/lang/Object;"), (2, u "EMPTY_ELEMENTDATA"), (21, .fieldref 10 40), (0, .nameAndType 41 14), (0, u "DEFAULTCAPACITY_EMPTY_ELEMENTDATA"), (5, u "()[Ljava/lang/Object;"), (0, .fieldref 10 49), (0, .nameAndType 50 51), (0, u "size"), (0, u "I"), (11, .fieldref 10 64), (0, .nameAndType 65 51), (0, u "modCount"), (3, .methodref 10 70), (0, .nameAndType 71 72), (0, u "grow"), (0, u "(I)[Ljava/lang/Object;"), (6, .methodref 80 81), (0, .class_ 82), (0, .nameAndType 83 84), (0, u "java/lang/Math"), (0, u "max"), (0, u "(II)I"), (11, u "(Ljava/lang/Object;)Z"), (21, .methodref 119 120), (0, .class_ 121), (0, .nameAndType 122 84), (0, u "java/util/Objects"), (0, u "checkIndex"), (0, .methodref 10 124), (0, .nameAndType 13 125), (0, u "(I)Ljava/lang/Object;"), (3, .methodref 10 130), (0, .nameAndType 71 47), (0, .methodref 10 132), (0, .nameAndType 133 134), (0, u "add"), (0, u "(Ljava/lang/Object;[Ljava/lang/Object;I)V"), (13, .class_ 149), (0, u "java/util/List"), (36, u "()I"), (75, .class_ 263), (0, u "java/util/ArrayList$ListItr"), (3, .class_ 268), (0, u "java/util/ArrayList$Itr"), (7, .class_ 277), (0, u "java/util/ArrayList$SubList"), (12, .class_ 291), (0, u "java/util/ArrayList$ArrayListSpliterator"), (37, .class_ 330), (0, u "java/util/RandomAccess"), (0, .class_ 332), (0, u "java/lang/Cloneable"), (0, .class_ 334), (0, u "java/io/Serializable"), (0, u "serialVersionUID"), (0, u "J"), (3, u "DEFAULT_CAPACITY"), (40, u "get"), (118, .class_ 501), (0, u "java/util/ArrayList$SubList$2"), (0, .class_ 503), (0, u "java/util/ArrayList$SubList$1")] 5

def k18c0 : Code := { maxStack := 2, maxLocals := 1, code := jdk_38_method_2_code, exceptionTable := #[], attributes := #[] }
def k18m0 : Method := { name := "<init>", desc := "()V", sig := { parameters := [], returnType := none }, accessFlags := 1, code := some k18c0 }
def k18c1 : Code := { maxStack := 4, maxLocals := 4, code := jdk_38_method_6_code, exceptionTable := #[], attributes := #[] }
def k18m1 : Method := { name := "grow", desc := "(I)[Ljava/lang/Object;", sig := { parameters := [.int], returnType := some (.array (.object "java/lang/Object")) }, accessFlags := 2, code := some k18c1 }
def k18c2 : Code := { maxStack := 3, maxLocals := 1, code := jdk_38_method_7_code, exceptionTable := #[], attributes := #[] }
def k18m2 : Method := { name := "grow", desc := "()[Ljava/lang/Object;", sig := { parameters := [], returnType := some (.array (.object "java/lang/Object")) }, accessFlags := 2, code := some k18c2 }
def k18c3 : Code := { maxStack := 1, maxLocals := 1, code := jdk_38_method_8_code, exceptionTable := #[], attributes := #[] }
def k18m3 : Method := { name := "size", desc := "()I", sig := { parameters := [], returnType := some .int }, accessFlags := 1, code := some k18c3 }
def k18c4 : Code := { maxStack := 2, maxLocals := 2, code := jdk_38_method_18_code, exceptionTable := #[], attributes := #[] }
def k18m4 : Method := { name := "elementData", desc := "(I)Ljava/lang/Object;", sig := { parameters := [.int], returnType := some (.object "java/lang/Object") }, accessFlags := 0, code := some k18c4 }
def k18c5 : Code := { maxStack := 2, maxLocals := 2, code := jdk_38_method_20_code, exceptionTable := #[], attributes := #[] }
def k18m5 : Method := { name := "get", desc := "(I)Ljava/lang/Object;", sig := { parameters := [.int], returnType := some (.object "java/lang/Object") }, accessFlags := 1, code := some k18c5 }
def k18c6 : Code := { maxStack := 3, maxLocals := 4, code := jdk_38_method_24_code, exceptionTable := #[], attributes := #[] }
def k18m6 : Method := { name := "add", desc := "(Ljava/lang/Object;[Ljava/lang/Object;I)V", sig := { parameters := [(.object "java/lang/Object"), (.array (.object "java/lang/Object")), .int], returnType := none }, accessFlags := 2, code := some k18c6 }
def k18c7 : Code := { maxStack := 4, maxLocals := 2, code := jdk_38_method_25_code, exceptionTable := #[], attributes := #[] }
def k18m7 : Method := { name := "add", desc := "(Ljava/lang/Object;)Z", sig := { parameters := [(.object "java/lang/Object")], returnType := some .boolean }, accessFlags := 1, code := some k18c7 }
/-- java/util/ArrayList -/
def k18 : Class := { plain "java/util/ArrayList" (some 15) with
  accessFlags := 33
  interfaces := #[14, 16, 17, 2]
  cf := some (fileOf pool18 10 #[.nestMembers #[290, 276, 500, 502, 262, 267]] #[{ accessFlags := 1, nameIndex := 5, descriptorIndex := 6, attributes := #[] }, { accessFlags := 2, nameIndex := 71, descriptorIndex := 72, attributes := #[] }, { accessFlags := 2, nameIndex := 71, descriptorIndex := 47, attributes := #[] }, { accessFlags := 1, nameIndex := 50, descriptorIndex := 186, attributes := #[] }, { accessFlags := 0, nameIndex := 13, descriptorIndex := 125, attributes := #[] }, { accessFlags := 1, nameIndex := 381, descriptorIndex := 125, attributes := #[] }, { accessFlags := 2, nameIndex := 133, descriptorIndex := 134, attributes := #[] }, { accessFlags := 1, nameIndex := 133, descriptorIndex := 96, attributes := #[] }] 33 2 #[148, 329, 331, 333] #[{ accessFlags := 26, nameIndex := 335, descriptorIndex := 336, attributes := #[] }, { accessFlags := 26, nameIndex := 340, descriptorIndex := 51, attributes := #[] }, { accessFlags := 26, nameIndex := 17, descriptorIndex := 14, attributes := #[] }, { accessFlags := 26, nameIndex := 41, descriptorIndex := 14, attributes := #[] }, { accessFlags := 128, nameIndex := 13, descriptorIndex := 14, attributes := #[] }, { accessFlags := 2, nameIndex := 50, descriptorIndex := 51, attributes := #[] }])
  fields := #[{ name := "serialVersionUID", type := .long, accessFlags := 26, slot := 0, constantValue := 0 }, { name := "DEFAULT_CAPACITY", type := .int, accessFlags := 26, slot := 1, constantValue := 0 }, { name := "EMPTY_ELEMENTDATA", type := (.array (.object "java/lang/Object")), accessFlags := 26, slot := 2, constantValue := 0 }, { name := "DEFAULTCAPACITY_EMPTY_ELEMENTDATA", type := (.array (.object "java/lang/Object")), accessFlags := 26, slot := 3, constantValue := 0 }, { name := "elementData", type := (.array (.object "java/lang/Object")), accessFlags := 128, slot := 1, constantValue := 0 }, { name := "size", type := .int, accessFlags := 2, slot := 2, constantValue := 0 }]
  methods := #[k18m0, k18m1, k18m2, k18m3, k18m4, k18m5, k18m6, k18m7]
  instanceTypes := #[.int, (.array (.object "java/lang/Object")), .int]
  staticTypes := #[.long, .int, (.array (.object "java/lang/Object")), (.array (.object "java/lang/Object"))]
  resolved := Array.replicate 509 none
  statics := some 1 }

def pool19 : Array CpInfo := pool [(1, .class_ 2), (0, u "java/lang/Math"), (1, .class_ 6), (1, u "java/lang/Object"), (0, u "<init>"), (0, u "()V"), (89, .class_ 100), (1, u "java/lang/Math$RandomNumberGeneratorHolder"), (71, u "negativeZeroFloatBits"), (0, u "J"), (2, u "negativeZeroDoubleBits"), (21, u "max"), (46, u "$assertionsDisabled"), (0, u "Z"), (88, u "(II)I"), (2, u "twoToTheDoubleScaleDown"), (0, u "D"), (4, u "twoToTheDoubleScaleUp"), (9, u "E"), (3, u "PI"), (2, u "TAU"), (2, u "DEGREES_TO_RADIANS"), (0, u "RADIANS_TO_DEGREES")] 94

def k19m0 : Method := { name := "<init>", desc := "()V", sig := { parameters := [], returnType := none }, accessFlags := 2, code := none }
def k19c1 : Code := { maxStack := 2, maxLocals := 2, code := jdk_29_method_65_code, exceptionTable := #[], attributes := #[] }
def k19m1 : Method := { name := "max", desc := "(II)I", sig := { parameters := [.int, .int], returnType := some .int }, accessFlags := 9, code := some k19c1 }
/-- java/lang/Math -/
def k19 : Class := { plain "java/lang/Math" (some 0) with
  accessFlags := 49
  interfaces := #[]
  cf := some (fileOf pool19 1 #[.nestMembers #[98]] #[{ accessFlags := 2, nameIndex := 7, descriptorIndex := 8, attributes := #[] }, { accessFlags := 9, nameIndex := 198, descriptorIndex := 335, attributes := #[] }] 49 4 #[] #[{ accessFlags := 25, nameIndex := 354, descriptorIndex := 339, attributes := #[] }, { accessFlags := 25, nameIndex := 358, descriptorIndex := 339, attributes := #[] }, { accessFlags := 25, nameIndex := 361, descriptorIndex := 339, attributes := #[] }, { accessFlags := 26, nameIndex := 364, descriptorIndex := 339, attributes := #[] }, { accessFlags := 26, nameIndex := 365, descriptorIndex := 339, attributes := #[] }, { accessFlags := 26, nameIndex := 172, descriptorIndex := 173, attributes := #[] }, { accessFlags := 26, nameIndex := 176, descriptorIndex := 173, attributes := #[] }, { accessFlags := 8, nameIndex := 344, descriptorIndex := 339, attributes := #[] }, { accessFlags := 8, nameIndex := 338, descriptorIndex := 339, attributes := #[] }, { accessFlags := 4120, nameIndex := 245, descriptorIndex := 246, attributes := #[] }])
  fields := #[{ name := "E", type := .double, accessFlags := 25, slot := 0, constantValue := 0 }, { name := "PI", type := .double, accessFlags := 25, slot := 1, constantValue := 0 }, { name := "TAU", type := .double, accessFlags := 25, slot := 2, constantValue := 0 }, { name := "DEGREES_TO_RADIANS", type := .double, accessFlags := 26, slot := 3, constantValue := 0 }, { name := "RADIANS_TO_DEGREES", type := .double, accessFlags := 26, slot := 4, constantValue := 0 }, { name := "negativeZeroFloatBits", type := .long, accessFlags := 26, slot := 5, constantValue := 0 }, { name := "negativeZeroDoubleBits", type := .long, accessFlags := 26, slot := 6, constantValue := 0 }, { name := "twoToTheDoubleScaleUp", type := .double, accessFlags := 8, slot := 7, constantValue := 0 }, { name := "twoToTheDoubleScaleDown", type := .double, accessFlags := 8, slot := 8, constantValue := 0 }, { name := "$assertionsDisabled", type := .boolean, accessFlags := 4120, slot := 9, constantValue := 0 }]
  methods := #[k19m0, k19m1]
  instanceTypes := #[]
  staticTypes := #[.double, .double, .double, .double, .double, .long, .long, .double, .double, .boolean]
  resolved := Array.replicate 460 none
  statics := none }

def pool20 : Array CpInfo := pool [(2, .class_ 4), (1, u "java/lang/Object"), (0, u "<init>"), (0, u "()V"), (35, .class_ 44), (1, u "java/util/Objects"), (60, .methodref 106 107), (0, .class_ 108), (0, .nameAndType 109 110), (0, u "jdk/internal/util/Preconditions"), (0, u "checkIndex"), (0, u "(IILjava/util/function/BiFunction;)I"), (60, u "(II)I")] 12

def k20m0 : Method := { name := "<init>", desc := "()V", sig := { parameters := [], returnType := none }, accessFlags := 2, code := none }
def k20c1 : Code := { maxStack := 3, maxLocals := 2, code := jdk_31_method_17_code, exceptionTable := #[], attributes := #[] }
def k20m1 : Method := { name := "checkIndex", desc := "(II)I", sig := { parameters := [.int, .int], returnType := some .int }, accessFlags := 9, code := some k20c1 }
/-- java/util/Objects -/
def k20 : Class := { plain "java/util/Objects" (some 0) with
  accessFlags := 49
  interfaces := #[]
  cf := some (fileOf pool20 42 #[] #[{ accessFlags := 2, nameIndex := 5, descriptorIndex := 6, attributes := #[] }, { accessFlags := 9, nameIndex := 109, descriptorIndex := 171, attributes := #[] }] 49 2 #[] #[])
  fields := #[]
  methods := #[k20m0, k20m1]
  instanceTypes := #[]
  staticTypes := #[]
  resolved := Array.replicate 184 none
  statics := none }

def pool21 : Array CpInfo := pool [(2, .class_ 4), (1, u "java/lang/Object"), (0, u "<init>"), (0, u "()V"), (17, .class_ 26), (1, u "jdk/internal/util/Preconditions"), (6, u "checkIndex"), (21, .class_ 56), (0, u "jdk/internal/util/Preconditions$4"), (57, .class_ 115), (0, u "jdk/internal/util/Preconditions$1"), (7, u "SIOOBE_FORMATTER"), (0, u "Ljava/util/function/BiFunction;"), (0, .class_ 126), (0, u "jdk/internal/util/Preconditions$2"), (3, u "AIOOBE_FORMATTER"), (0, .class_ 132), (0, u "jdk/internal/util/Preconditions$3"), (3, u "IOOBE_FORMATTER"), (41, u "(IILjava/util/function/BiFunction;)I")] 15

def k21m0 : Method := { name := "<init>", desc := "()V", sig := { parameters := [], returnType := none }, accessFlags := 1, code := none }
def k21c1 : Code := { maxStack := 3, maxLocals := 3, code := jdk_41_method_11_code, exceptionTable := #[], attributes := #[] }
def k21m1 : Method := { name := "checkIndex", desc := "(IILjava/util/function/BiFunction;)I", sig := { parameters := [.int, .int, (.object "java/util/function/BiFunction")], returnType := some .int }, accessFlags := 9, code := some k21c1 }
/-- jdk/internal/util/Preconditions -/
def k21 : Class := { plain "jdk/internal/util/Preconditions" (some 0) with
  accessFlags := 33
  interfaces := #[]
  cf := some (fileOf pool21 24 #[.nestMembers #[55, 131, 125, 114]] #[{ accessFlags := 1, nameIndex := 5, descriptorIndex := 6, attributes := #[] }, { accessFlags := 9, nameIndex := 33, descriptorIndex := 178, attributes := #[] }] 33 2 #[] #[{ accessFlags := 25, nameIndex := 123, descriptorIndex := 124, attributes := #[] }, { accessFlags := 25, nameIndex := 130, descriptorIndex := 124, attributes := #[] }, { accessFlags := 25, nameIndex := 136, descriptorIndex := 124, attributes := #[] }])
  fields := #[{ name := "SIOOBE_FORMATTER", type := (.object "java/util/function/BiFunction"), accessFlags := 25, slot := 0, constantValue := 0 }, { name := "AIOOBE_FORMATTER", type := (.object "java/util/function/BiFunction"), accessFlags := 25, slot := 1, constantValue := 0 }, { name := "IOOBE_FORMATTER", type := (.object "java/util/function/BiFunction"), accessFlags := 25, slot := 2, constantValue := 0 }]
  methods := #[k21m0, k21m1]
  instanceTypes := #[]
  staticTypes := #[(.object "java/util/function/BiFunction"), (.object "java/util/function/BiFunction"), (.object "java/util/function/BiFunction")]
  resolved := Array.replicate 194 none
  statics := some 2 }

def pool22 : Array CpInfo := pool [(4, .class_ 6), (1, u "java/lang/Object"), (0, u "<init>"), (0, u "()V"), (5, .class_ 16), (1, u "java/lang/StringLatin1"), (104, u "$assertionsDisabled"), (0, u "Z"), (98, .class_ 223), (1, u "java/lang/StringLatin1$LinesSpliterator"), (166, .class_ 391), (0, u "java/lang/StringLatin1$CharsSpliterator")] 3

def k22m0 : Method := { name := "<init>", desc := "()V", sig := { parameters := [], returnType := none }, accessFlags := 0, code := none }
/-- java/lang/StringLatin1 -/
def k22 : Class := { plain "java/lang/StringLatin1" (some 0) with
  accessFlags := 48
  interfaces := #[]
  cf := some (fileOf pool22 14 #[.nestMembers #[390, 221]] #[{ accessFlags := 0, nameIndex := 7, descriptorIndex := 8, attributes := #[] }] 48 4 #[] #[{ accessFlags := 4120, nameIndex := 121, descriptorIndex := 122, attributes := #[] }])
  fields := #[{ name := "$assertionsDisabled", type := .boolean, accessFlags := 4120, slot := 0, constantValue := 0 }]
  methods := #[k22m0]
  instanceTypes := #[]
  staticTypes := #[.boolean]
  resolved := Array.replicate 395 none
  statics := none }

def pool23 : Array CpInfo := pool [(9, u "<init>"), (6, .class_ 18), (1, u "java/lang/Object"), (0, u "()V"), (1, .class_ 23), (1, u "jdk/internal/util/ArraysSupport"), (0, u "LOG2_ARRAY_LONG_INDEX_SCALE"), (0, u "I"), (2, u "U"), (0, u "Ljdk/internal/misc/Unsafe;"), (8, u "BIG_ENDIAN"), (0, u "Z"), (8, u "LOG2_BYTE_BIT_SIZE"), (4, u "LOG2_ARRAY_INT_INDEX_SCALE"), (54, u "JLA"), (0, u "Ljdk/internal/access/JavaLangAccess;"), (11, u "LOG2_ARRAY_BOOLEAN_INDEX_SCALE"), (9, u "LOG2_ARRAY_BYTE_INDEX_SCALE"), (5, u "LOG2_ARRAY_CHAR_INDEX_SCALE"), (5, u "LOG2_ARRAY_SHORT_INDEX_SCALE"), (18, u "LOG2_ARRAY_FLOAT_INDEX_SCALE"), (24, u "LOG2_ARRAY_DOUBLE_INDEX_SCALE"), (89, u "T_BOOLEAN"), (2, u "T_CHAR"), (1, u "T_FLOAT"), (1, u "T_DOUBLE"), (1, u "T_BYTE"), (1, u "T_SHORT"), (1, u "T_INT"), (1, u "T_LONG"), (1, u "SOFT_MAX_ARRAY_LENGTH")] 83

def k23m0 : Method := { name := "<init>", desc := "()V", sig := { parameters := [], returnType := none }, accessFlags := 2, code := none }
/-- jdk/internal/util/ArraysSupport -/
def k23 : Class := { plain "jdk/internal/util/ArraysSupport" (some 0) with
  accessFlags := 33
  interfaces := #[]
  cf := some (fileOf pool23 21 #[] #[{ accessFlags := 2, nameIndex := 9, descriptorIndex := 19, attributes := #[] }] 33 16 #[] #[{ accessFlags := 24, nameIndex := 28, descriptorIndex := 29, attributes := #[] }, { accessFlags := 26, nameIndex := 38, descriptorIndex := 39, attributes := #[] }, { accessFlags := 25, nameIndex := 121, descriptorIndex := 25, attributes := #[] }, { accessFlags := 25, nameIndex := 131, descriptorIndex := 25, attributes := #[] }, { accessFlags := 25, nameIndex := 137, descriptorIndex := 25, attributes := #[] }, { accessFlags := 25, nameIndex := 143, descriptorIndex := 25, attributes := #[] }, { accessFlags := 25, nameIndex := 53, descriptorIndex := 25, attributes := #[] }, { accessFlags := 25, nameIndex := 24, descriptorIndex := 25, attributes := #[] }, { accessFlags := 25, nameIndex := 162, descriptorIndex := 25, attributes := #[] }, { accessFlags := 25, nameIndex := 187, descriptorIndex := 25, attributes := #[] }, { accessFlags := 26, nameIndex := 48, descriptorIndex := 25, attributes := #[] }, { accessFlags := 25, nameIndex := 277, descriptorIndex := 25, attributes := #[] }, { accessFlags := 25, nameIndex := 280, descriptorIndex := 25, attributes := #[] }, { accessFlags := 25, nameIndex := 282, descriptorIndex := 25, attributes := #[] }, { accessFlags := 25, nameIndex := 284, descriptorIndex := 25, attributes := #[] }, { accessFlags := 25, nameIndex := 286, descriptorIndex := 25, attributes := #[] }, { accessFlags := 25, nameIndex := 288, descriptorIndex := 25, attributes := #[] }, { accessFlags := 25, nameIndex := 290, descriptorIndex := 25, attributes := #[] }, { accessFlags := 25, nameIndex := 292, descriptorIndex := 25, attributes := #[] }, { accessFlags := 26, nameIndex := 108, descriptorIndex := 109, attributes := #[] }, { accessFlags := 25, nameIndex := 294, descriptorIndex := 25, attributes := #[] }])
  fields := #[{ name := "U", type := (.object "jdk/internal/misc/Unsafe"), accessFlags := 24, slot := 0, constantValue := 0 }, { name := "BIG_ENDIAN", type := .boolean, accessFlags := 26, slot := 1, constantValue := 0 }, { name := "LOG2_ARRAY_BOOLEAN_INDEX_SCALE", type := .int, accessFlags := 25, slot := 2, constantValue := 0 }, { name := "LOG2_ARRAY_BYTE_INDEX_SCALE", type := .int, accessFlags := 25, slot := 3, constantValue := 0 }, { name := "LOG2_ARRAY_CHAR_INDEX_SCALE", type := .int, accessFlags := 25, slot := 4, constantValue := 0 }, { name := "LOG2_ARRAY_SHORT_INDEX_SCALE", type := .int, accessFlags := 25, slot := 5, constantValue := 0 }, { name := "LOG2_ARRAY_INT_INDEX_SCALE", type := .int, accessFlags := 25, slot := 6, constantValue := 0 }, { name := "LOG2_ARRAY_LONG_INDEX_SCALE", type := .int, accessFlags := 25, slot := 7, constantValue := 0 }, { name := "LOG2_ARRAY_FLOAT_INDEX_SCALE", type := .int, accessFlags := 25, slot := 8, constantValue := 0 }, { name := "LOG2_ARRAY_DOUBLE_INDEX_SCALE", type := .int, accessFlags := 25, slot := 9, constantValue := 0 }, { name := "LOG2_BYTE_BIT_SIZE", type := .int, accessFlags := 26, slot := 10, constantValue := 0 }, { name := "T_BOOLEAN", type := .int, accessFlags := 25, slot := 11, constantValue := 0 }, { name := "T_CHAR", type := .int, accessFlags := 25, slot := 12, constantValue := 0 }, { name := "T_FLOAT", type := .int, accessFlags := 25, slot := 13, constantValue := 0 }, { name := "T_DOUBLE", type := .int, accessFlags := 25, slot := 14, constantValue := 0 }, { name := "T_BYTE", type := .int, accessFlags := 25, slot := 15, constantValue := 0 }, { name := "T_SHORT", type := .int, accessFlags := 25, slot := 16, constantValue := 0 }, { name := "T_INT", type := .int, accessFlags := 25, slot := 17, constantValue := 0 }, { name := "T_LONG", type := .int, accessFlags := 25, slot := 18, constantValue := 0 }, { name := "JLA", type := (.object "jdk/internal/access/JavaLangAccess"), accessFlags := 26, slot := 19, constantValue := 0 }, { name := "SOFT_MAX_ARRAY_LENGTH", type := .int, accessFlags := 25, slot := 20, constantValue := 0 }]
  methods := #[k23m0]
  instanceTypes := #[]
  staticTypes := #[(.object "jdk/internal/misc/Unsafe"), .boolean, .int, .int, .int, .int, .int, .int, .int, .int, .int, .int, .int, .int, .int, .int, .int, .int, .int, (.object "jdk/internal/access/JavaLangAccess"), .int]
  resolved := Array.replicate 378 none
  statics := none }

/-- the primitive byte -/
def k24 : Class := { plain "byte" none with kind := .primitive 'B', accessFlags := 0x411 }
/-- [B -/
def k25 : Class := { plain "[B" (some 0) with kind := .array 24 .byte, interfaces := #[17, 2], accessFlags := 1041 }

/-- the primitive char -/
def k26 : Class := { plain "char" none with kind := .primitive 'C', accessFlags := 0x411 }
/-- [C -/
def k27 : Class := { plain "[C" (some 0) with kind := .array 26 .char, interfaces := #[17, 2], accessFlags := 1041 }

/-- the primitive int -/
def k28 : Class := { plain "int" none with kind := .primitive 'I', accessFlags := 0x411 }
/-- [I -/
def k29 : Class := { plain "[I" (some 0) with kind := .array 28 .int, interfaces := #[17, 2], accessFlags := 1041 }

/-- the primitive long -/
def k30 : Class := { plain "long" none with kind := .primitive 'J', accessFlags := 0x411 }
/-- [J -/
def k31 : Class := { plain "[J" (some 0) with kind := .array 30 .long, interfaces := #[17, 2], accessFlags := 1041 }

/-- [Ljava/lang/Object; -/
def k32 : Class := { plain "[Ljava/lang/Object;" (some 0) with kind := .array 0 (.object "java/lang/Object"), interfaces := #[17, 2], accessFlags := 1041 }

def heap : Heap := #[{ cls := 7, slots := #[.long 0, .int 1, .null, .int 0, .null, .int 0, .int 0], vm := .statics 7 },
  { cls := 18, slots := #[.long 0, .int 0, .ref 3, .ref 4], vm := .statics 18 },
  { cls := 21, slots := #[.null, .null, .null], vm := .statics 21 },
  { cls := 32, slots := #[], vm := .none },
  { cls := 32, slots := #[], vm := .none }]
def classes : Array Class := #[k0, k1, k2, k3, k4, k5, k6, k7, k8, k9, k10, k11, k12, k13, k14, k15, k16, k17, k18, k19, k20, k21, k22, k23, k24, k25, k26, k27, k28, k29, k30, k31, k32]
def interned : List (Array UInt16 × Addr) := []
def slotsUsed : Nat := 14
def theMethod : MethodId := ⟨1, 1⟩
def args0 : Array Value := #[.int 6, .int 7, .long 9, .long 11, .long 13]
def aboutOver (below : List Frame) : State where
  vm := { classes := classes, interned := interned.toArray }
  heap := heap
  slotsUsed := slotsUsed
  threads := #[{ frames := .invoking theMethod args0 :: below }]
def below0 : List Frame := [.native { method := ⟨0, 0⟩, args := #[] }]
def about1 : State := aboutOver below0
def p0 : Program := .bare "" "" ""
def e0 : Env := launch0.env 0 0 0
theorem w_frames : about1.frames = Frame.invoking theMethod args0 :: below0 := rfl
set_option maxRecDepth 65536 in
theorem w_args : argsFit about1.vm theMethod args0 = true := by decide +kernel
set_option maxRecDepth 65536 in
theorem w_heap : heapFits about1 = true := by decide +kernel
set_option maxRecDepth 65536 in
theorem w_runnable : about1.curStatus? = some .runnable := by decide +kernel
set_option maxRecDepth 65536 in
theorem w_alone : about1.alone = true := by decide +kernel
set_option maxRecDepth 65536 in
theorem w_named : about1.methodNamed? x = some theMethod := by decide +kernel
set_option maxRecDepth 65536 in
theorem w_hears : about1.hears theMethod below0 = true := by decide +kernel
set_option maxRecDepth 65536 in
theorem w_ripe : about1.ripe theMethod args0 below0 = true := by decide +kernel
theorem w_running : about1.status = .running := rfl
set_option maxRecDepth 65536 in
theorem w_room : about1.hasRoom e0.platform room_1 = true :=
  launch0.hasRoom_least _ room_1 (by decide +kernel) (by decide +kernel) (by decide +kernel) (by decide +kernel) (by decide +kernel) (by decide +kernel)
theorem allAtoms_all (ts : List Jvm.Cond) (a : Array Jvm.Value) (st : Jvm.State) : (allAtoms ts).before a st = ts.all (fun c => c.before a st) := by
  induction ts with
  | nil => rfl
  | cons c t ih =>
    show (Jvm.Cond.and c (allAtoms t)).before a st = _
    rw [Jvm.Cond.before_and, ih, List.all_cons]
def words1 : List Jvm.Cond := Jvm.Cond.code x code maxLocals ret :: tables_1
/-- a 'code' word, met by the world's own term for the bytes: nothing is compared byte by byte -/
theorem code_word {y : MethodName} {bytes : ByteArray} {mx : Nat} {rt : Option FieldType} {a : Array Value} {s : State} {m : MethodId} {meth : Method} {c : Code} (h1 : s.methodNamed? y = some m) (h2 : s.vm.method? m = some meth) (h3 : meth.code = some c) (h4 : c.code = bytes)
    (h5 : (c.maxLocals == mx && c.exceptionTable.isEmpty && decide (c.maxStack ≤ mostOperands) && decide (meth.sig.returnType = rt) && !meth.locks && decide (parseMethodDescriptor y.desc = some meth.sig)) = true) : (Jvm.Cond.code y bytes mx rt).before a s = true := by
  simp only [Bool.and_eq_true, beq_iff_eq, Bool.not_eq_true', decide_eq_true_eq] at h5
  obtain ⟨⟨⟨⟨⟨g1, g2⟩, g3⟩, g4⟩, g5⟩, g6⟩ := h5
  simp [Cond.before, Cond.holds, Cond.value, h1, h2, h3, h4, g1, g2, g3, g4, g5, g6]
def isCode : Jvm.Cond → Bool
  | .code _ _ _ _ => true
  | _ => false
theorem all_split {L : List Jvm.Cond} {P : Jvm.Cond → Bool} (h1 : L.all (fun c => isCode c || P c) = true) (h2 : ∀ c ∈ L.filter isCode, P c = true) : L.all P = true := by
  refine List.all_eq_true.mpr fun c hc => ?_
  have h := List.all_eq_true.mp h1 c hc
  rcases Bool.eq_false_or_eq_true (isCode c) with hi | hi
  · exact h2 c (List.mem_filter.mpr ⟨hc, hi⟩)
  · simpa [hi] using h
set_option maxRecDepth 65536 in
theorem w_c0 : (Jvm.Cond.code x code maxLocals ret).before args0 about1 = true := code_word (m := ⟨1, 1⟩) (meth := k1m1) (c := k1c1) (by decide +kernel) rfl rfl rfl (by decide +kernel)
set_option maxRecDepth 65536 in
theorem w_c1 : (Jvm.Cond.code ({ cls := "java/lang/String", name := "<init>", desc := "([C)V" } : Jvm.MethodName) jdk_42_method_3_code (2 : Nat) (Option.none : Option Jvm.ClassFile.FieldType)).before args0 about1 = true := code_word (m := ⟨7, 1⟩) (meth := k7m1) (c := k7c1) (by decide +kernel) rfl rfl rfl (by decide +kernel)
set_option maxRecDepth 65536 in
theorem w_c2 : (Jvm.Cond.code ({ cls := "java/lang/String", name := "<init>", desc := "([CIILjava/lang/Void;)V" } : Jvm.MethodName) jdk_42_method_149_code (6 : Nat) (Option.none : Option Jvm.ClassFile.FieldType)).before args0 about1 = true := code_word (m := ⟨7, 2⟩) (meth := k7m2) (c := k7c2) (by decide +kernel) rfl rfl rfl (by decide +kernel)
set_option maxRecDepth 65536 in
theorem w_c3 : (Jvm.Cond.code ({ cls := "java/lang/Object", name := "<init>", desc := "()V" } : Jvm.MethodName) object_method_1_code (1 : Nat) (Option.none : Option Jvm.ClassFile.FieldType)).before args0 about1 = true := code_word (m := ⟨0, 0⟩) (meth := k0m0) (c := k0c0) (by decide +kernel) rfl rfl rfl (by decide +kernel)
set_option maxRecDepth 65536 in
theorem w_c4 : (Jvm.Cond.code ({ cls := "java/lang/StringUTF16", name := "compress", desc := "([CII)[B" } : Jvm.MethodName) jdk_52_method_16_code (6 : Nat) (Option.some (Jvm.ClassFile.FieldType.array Jvm.ClassFile.FieldType.byte))).before args0 about1 = true := code_word (m := ⟨8, 2⟩) (meth := k8m2) (c := k8c2) (by decide +kernel) rfl rfl rfl (by decide +kernel)
set_option maxRecDepth 65536 in
theorem w_c5 : (Jvm.Cond.code ({ cls := "java/lang/StringUTF16", name := "compress", desc := "([CI[BII)I" } : Jvm.MethodName) jdk_52_method_21_code (7 : Nat) (Option.some Jvm.ClassFile.FieldType.int)).before args0 about1 = true := code_word (m := ⟨8, 3⟩) (meth := k8m3) (c := k8c3) (by decide +kernel) rfl rfl rfl (by decide +kernel)
set_option maxRecDepth 65536 in
theorem w_c6 : (Jvm.Cond.code ({ cls := "java/lang/StringUTF16", name := "coderFromArrayLen", desc := "([BI)B" } : Jvm.MethodName) jdk_52_method_15_code (2 : Nat) (Option.some Jvm.ClassFile.FieldType.byte)).before args0 about1 = true := code_word (m := ⟨8, 1⟩) (meth := k8m1) (c := k8c1) (by decide +kernel) rfl rfl rfl (by decide +kernel)
set_option maxRecDepth 65536 in
theorem w_c7 : (Jvm.Cond.code ({ cls := "com/example/exdate/exdate/cli/RowsRead", name := "<init>", desc := "()V" } : Jvm.MethodName) prog_89_method_1_code (1 : Nat) (Option.none : Option Jvm.ClassFile.FieldType)).before args0 about1 = true := code_word (m := ⟨9, 0⟩) (meth := k9m0) (c := k9c0) (by decide +kernel) rfl rfl rfl (by decide +kernel)
set_option maxRecDepth 65536 in
theorem w_c8 : (Jvm.Cond.code ({ cls := "java/util/ArrayList", name := "<init>", desc := "()V" } : Jvm.MethodName) jdk_38_method_2_code (1 : Nat) (Option.none : Option Jvm.ClassFile.FieldType)).before args0 about1 = true := code_word (m := ⟨18, 0⟩) (meth := k18m0) (c := k18c0) (by decide +kernel) rfl rfl rfl (by decide +kernel)
set_option maxRecDepth 65536 in
theorem w_c9 : (Jvm.Cond.code ({ cls := "java/util/AbstractList", name := "<init>", desc := "()V" } : Jvm.MethodName) jdk_39_method_1_code (1 : Nat) (Option.none : Option Jvm.ClassFile.FieldType)).before args0 about1 = true := code_word (m := ⟨15, 0⟩) (meth := k15m0) (c := k15c0) (by decide +kernel) rfl rfl rfl (by decide +kernel)
set_option maxRecDepth 65536 in
theorem w_c10 : (Jvm.Cond.code ({ cls := "java/util/AbstractCollection", name := "<init>", desc := "()V" } : Jvm.MethodName) jdk_22_method_1_code (1 : Nat) (Option.none : Option Jvm.ClassFile.FieldType)).before args0 about1 = true := code_word (m := ⟨12, 0⟩) (meth := k12m0) (c := k12c0) (by decide +kernel) rfl rfl rfl (by decide +kernel)
set_option maxRecDepth 65536 in
theorem w_c11 : (Jvm.Cond.code ({ cls := "com/example/exdate/exdate/cli/RowsRead", name := "add", desc := "(Ljava/lang/Object;J)V" } : Jvm.MethodName) prog_89_method_2_code (4 : Nat) (Option.none : Option Jvm.ClassFile.FieldType)).before args0 about1 = true := code_word (m := ⟨9, 1⟩) (meth := k9m1) (c := k9c1) (by decide +kernel) rfl rfl rfl (by decide +kernel)
set_option maxRecDepth 65536 in
theorem w_c12 : (Jvm.Cond.code ({ cls := "java/util/ArrayList", name := "size", desc := "()I" } : Jvm.MethodName) jdk_38_method_8_code (1 : Nat) (Option.some Jvm.ClassFile.FieldType.int)).before args0 about1 = true := code_word (m := ⟨18, 3⟩) (meth := k18m3) (c := k18c3) (by decide +kernel) rfl rfl rfl (by decide +kernel)
set_option maxRecDepth 65536 in
theorem w_c13 : (Jvm.Cond.code ({ cls := "java/util/ArrayList", name := "add", desc := "(Ljava/lang/Object;)Z" } : Jvm.MethodName) jdk_38_method_25_code (2 : Nat) (Option.some Jvm.ClassFile.FieldType.boolean)).before args0 about1 = true := code_word (m := ⟨18, 7⟩) (meth := k18m7) (c := k18c7) (by decide +kernel) rfl rfl rfl (by decide +kernel)
set_option maxRecDepth 65536 in
theorem w_c14 : (Jvm.Cond.code ({ cls := "java/util/ArrayList", name := "add", desc := "(Ljava/lang/Object;[Ljava/lang/Object;I)V" } : Jvm.MethodName) jdk_38_method_24_code (4 : Nat) (Option.none : Option Jvm.ClassFile.FieldType)).before args0 about1 = true := code_word (m := ⟨18, 6⟩) (meth := k18m6) (c := k18c6) (by decide +kernel) rfl rfl rfl (by decide +kernel)
set_option maxRecDepth 65536 in
theorem w_c15 : (Jvm.Cond.code ({ cls := "java/util/ArrayList", name := "grow", desc := "()[Ljava/lang/Object;" } : Jvm.MethodName) jdk_38_method_7_code (1 : Nat) (Option.some (Jvm.ClassFile.FieldType.array (Jvm.ClassFile.FieldType.object "java/lang/Object")))).before args0 about1 = true := code_word (m := ⟨18, 2⟩) (meth := k18m2) (c := k18c2) (by decide +kernel) rfl rfl rfl (by decide +kernel)
set_option maxRecDepth 65536 in
theorem w_c16 : (Jvm.Cond.code ({ cls := "java/util/ArrayList", name := "grow", desc := "(I)[Ljava/lang/Object;" } : Jvm.MethodName) jdk_38_method_6_code (4 : Nat) (Option.some (Jvm.ClassFile.FieldType.array (Jvm.ClassFile.FieldType.object "java/lang/Object")))).before args0 about1 = true := code_word (m := ⟨18, 1⟩) (meth := k18m1) (c := k18c1) (by decide +kernel) rfl rfl rfl (by decide +kernel)
set_option maxRecDepth 65536 in
theorem w_c17 : (Jvm.Cond.code ({ cls := "java/lang/Math", name := "max", desc := "(II)I" } : Jvm.MethodName) jdk_29_method_65_code (2 : Nat) (Option.some Jvm.ClassFile.FieldType.int)).before args0 about1 = true := code_word (m := ⟨19, 1⟩) (meth := k19m1) (c := k19c1) (by decide +kernel) rfl rfl rfl (by decide +kernel)
set_option maxRecDepth 65536 in
theorem w_c18 : (Jvm.Cond.code ({ cls := "com/example/exdate/exdate/cli/RowsRead", name := "line", desc := "(Ljava/lang/Object;)J" } : Jvm.MethodName) prog_89_method_4_code (3 : Nat) (Option.some Jvm.ClassFile.FieldType.long)).before args0 about1 = true := code_word (m := ⟨9, 2⟩) (meth := k9m2) (c := k9c2) (by decide +kernel) rfl rfl rfl (by decide +kernel)
set_option maxRecDepth 65536 in
theorem w_c19 : (Jvm.Cond.code ({ cls := "java/util/ArrayList", name := "get", desc := "(I)Ljava/lang/Object;" } : Jvm.MethodName) jdk_38_method_20_code (2 : Nat) (Option.some (Jvm.ClassFile.FieldType.object "java/lang/Object"))).before args0 about1 = true := code_word (m := ⟨18, 5⟩) (meth := k18m5) (c := k18c5) (by decide +kernel) rfl rfl rfl (by decide +kernel)
set_option maxRecDepth 65536 in
theorem w_c20 : (Jvm.Cond.code ({ cls := "java/util/Objects", name := "checkIndex", desc := "(II)I" } : Jvm.MethodName) jdk_31_method_17_code (2 : Nat) (Option.some Jvm.ClassFile.FieldType.int)).before args0 about1 = true := code_word (m := ⟨20, 1⟩) (meth := k20m1) (c := k20c1) (by decide +kernel) rfl rfl rfl (by decide +kernel)
set_option maxRecDepth 65536 in
theorem w_c21 : (Jvm.Cond.code ({ cls := "jdk/internal/util/Preconditions", name := "checkIndex", desc := "(IILjava/util/function/BiFunction;)I" } : Jvm.MethodName) jdk_41_method_11_code (3 : Nat) (Option.some Jvm.ClassFile.FieldType.int)).before args0 about1 = true := code_word (m := ⟨21, 1⟩) (meth := k21m1) (c := k21c1) (by decide +kernel) rfl rfl rfl (by decide +kernel)
set_option maxRecDepth 65536 in
theorem w_c22 : (Jvm.Cond.code ({ cls := "java/util/ArrayList", name := "elementData", desc := "(I)Ljava/lang/Object;" } : Jvm.MethodName) jdk_38_method_18_code (2 : Nat) (Option.some (Jvm.ClassFile.FieldType.object "java/lang/Object"))).before args0 about1 = true := code_word (m := ⟨18, 4⟩) (meth := k18m4) (c := k18c4) (by decide +kernel) rfl rfl rfl (by decide +kernel)
def codes1 : List Jvm.Cond := [Jvm.Cond.code x code maxLocals ret, Jvm.Cond.code ({ cls := "java/lang/String", name := "<init>", desc := "([C)V" } : Jvm.MethodName) jdk_42_method_3_code (2 : Nat) (Option.none : Option Jvm.ClassFile.FieldType), Jvm.Cond.code ({ cls := "java/lang/String", name := "<init>", desc := "([CIILjava/lang/Void;)V" } : Jvm.MethodName) jdk_42_method_149_code (6 : Nat) (Option.none : Option Jvm.ClassFile.FieldType), Jvm.Cond.code ({ cls := "java/lang/Object", name := "<init>", desc := "()V" } : Jvm.MethodName) object_method_1_code (1 : Nat) (Option.none : Option Jvm.ClassFile.FieldType), Jvm.Cond.code ({ cls := "java/lang/StringUTF16", name := "compress", desc := "([CII)[B" } : Jvm.MethodName) jdk_52_method_16_code (6 : Nat) (Option.some (Jvm.ClassFile.FieldType.array Jvm.ClassFile.FieldType.byte)), Jvm.Cond.code ({ cls := "java/lang/StringUTF16", name := "compress", desc := "([CI[BII)I" } : Jvm.MethodName) jdk_52_method_21_code (7 : Nat) (Option.some Jvm.ClassFile.FieldType.int), Jvm.Cond.code ({ cls := "java/lang/StringUTF16", name := "coderFromArrayLen", desc := "([BI)B" } : Jvm.MethodName) jdk_52_method_15_code (2 : Nat) (Option.some Jvm.ClassFile.FieldType.byte), Jvm.Cond.code ({ cls := "com/example/exdate/exdate/cli/RowsRead", name := "<init>", desc := "()V" } : Jvm.MethodName) prog_89_method_1_code (1 : Nat) (Option.none : Option Jvm.ClassFile.FieldType), Jvm.Cond.code ({ cls := "java/util/ArrayList", name := "<init>", desc := "()V" } : Jvm.MethodName) jdk_38_method_2_code (1 : Nat) (Option.none : Option Jvm.ClassFile.FieldType), Jvm.Cond.code ({ cls := "java/util/AbstractList", name := "<init>", desc := "()V" } : Jvm.MethodName) jdk_39_method_1_code (1 : Nat) (Option.none : Option Jvm.ClassFile.FieldType), Jvm.Cond.code ({ cls := "java/util/AbstractCollection", name := "<init>", desc := "()V" } : Jvm.MethodName) jdk_22_method_1_code (1 : Nat) (Option.none : Option Jvm.ClassFile.FieldType), Jvm.Cond.code ({ cls := "com/example/exdate/exdate/cli/RowsRead", name := "add", desc := "(Ljava/lang/Object;J)V" } : Jvm.MethodName) prog_89_method_2_code (4 : Nat) (Option.none : Option Jvm.ClassFile.FieldType), Jvm.Cond.code ({ cls := "java/util/ArrayList", name := "size", desc := "()I" } : Jvm.MethodName) jdk_38_method_8_code (1 : Nat) (Option.some Jvm.ClassFile.FieldType.int), Jvm.Cond.code ({ cls := "java/util/ArrayList", name := "add", desc := "(Ljava/lang/Object;)Z" } : Jvm.MethodName) jdk_38_method_25_code (2 : Nat) (Option.some Jvm.ClassFile.FieldType.boolean), Jvm.Cond.code ({ cls := "java/util/ArrayList", name := "add", desc := "(Ljava/lang/Object;[Ljava/lang/Object;I)V" } : Jvm.MethodName) jdk_38_method_24_code (4 : Nat) (Option.none : Option Jvm.ClassFile.FieldType), Jvm.Cond.code ({ cls := "java/util/ArrayList", name := "grow", desc := "()[Ljava/lang/Object;" } : Jvm.MethodName) jdk_38_method_7_code (1 : Nat) (Option.some (Jvm.ClassFile.FieldType.array (Jvm.ClassFile.FieldType.object "java/lang/Object"))), Jvm.Cond.code ({ cls := "java/util/ArrayList", name := "grow", desc := "(I)[Ljava/lang/Object;" } : Jvm.MethodName) jdk_38_method_6_code (4 : Nat) (Option.some (Jvm.ClassFile.FieldType.array (Jvm.ClassFile.FieldType.object "java/lang/Object"))), Jvm.Cond.code ({ cls := "java/lang/Math", name := "max", desc := "(II)I" } : Jvm.MethodName) jdk_29_method_65_code (2 : Nat) (Option.some Jvm.ClassFile.FieldType.int), Jvm.Cond.code ({ cls := "com/example/exdate/exdate/cli/RowsRead", name := "line", desc := "(Ljava/lang/Object;)J" } : Jvm.MethodName) prog_89_method_4_code (3 : Nat) (Option.some Jvm.ClassFile.FieldType.long), Jvm.Cond.code ({ cls := "java/util/ArrayList", name := "get", desc := "(I)Ljava/lang/Object;" } : Jvm.MethodName) jdk_38_method_20_code (2 : Nat) (Option.some (Jvm.ClassFile.FieldType.object "java/lang/Object")), Jvm.Cond.code ({ cls := "java/util/Objects", name := "checkIndex", desc := "(II)I" } : Jvm.MethodName) jdk_31_method_17_code (2 : Nat) (Option.some Jvm.ClassFile.FieldType.int), Jvm.Cond.code ({ cls := "jdk/internal/util/Preconditions", name := "checkIndex", desc := "(IILjava/util/function/BiFunction;)I" } : Jvm.MethodName) jdk_41_method_11_code (3 : Nat) (Option.some Jvm.ClassFile.FieldType.int), Jvm.Cond.code ({ cls := "java/util/ArrayList", name := "elementData", desc := "(I)Ljava/lang/Object;" } : Jvm.MethodName) jdk_38_method_18_code (2 : Nat) (Option.some (Jvm.ClassFile.FieldType.object "java/lang/Object"))]
set_option maxRecDepth 65536 in
theorem codes_eq : words1.filter isCode = codes1 := rfl
theorem w_codes : ∀ c ∈ words1.filter isCode, c.before args0 about1 = true := by
  rw [codes_eq]
  intro c hc
  simp only [codes1, List.mem_cons, List.not_mem_nil, or_false] at hc
  rcases hc with rfl | rfl | rfl | rfl | rfl | rfl | rfl | rfl | rfl | rfl | rfl | rfl | rfl | rfl | rfl | rfl | rfl | rfl | rfl | rfl | rfl | rfl | rfl
  · exact w_c0
  · exact w_c1
  · exact w_c2
  · exact w_c3
  · exact w_c4
  · exact w_c5
  · exact w_c6
  · exact w_c7
  · exact w_c8
  · exact w_c9
  · exact w_c10
  · exact w_c11
  · exact w_c12
  · exact w_c13
  · exact w_c14
  · exact w_c15
  · exact w_c16
  · exact w_c17
  · exact w_c18
  · exact w_c19
  · exact w_c20
  · exact w_c21
  · exact w_c22
set_option maxRecDepth 65536 in
theorem w_t1 : (words1.take 24).all (fun c => isCode c || c.before args0 about1) = true := by decide +kernel
set_option maxRecDepth 65536 in
theorem w_t2 : ((words1.drop 24).take 24).all (fun c => isCode c || c.before args0 about1) = true := by decide +kernel
set_option maxRecDepth 65536 in
theorem w_t3 : (((words1.drop 24).drop 24).take 24).all (fun c => isCode c || c.before args0 about1) = true := by decide +kernel
set_option maxRecDepth 65536 in
theorem w_t4 : ((((words1.drop 24).drop 24).drop 24).take 24).all (fun c => isCode c || c.before args0 about1) = true := by decide +kernel
set_option maxRecDepth 65536 in
theorem w_t5 : (((((words1.drop 24).drop 24).drop 24).drop 24).take 24).all (fun c => isCode c || c.before args0 about1) = true := by decide +kernel
set_option maxRecDepth 65536 in
theorem w_t6 : (((((words1.drop 24).drop 24).drop 24).drop 24).drop 24).all (fun c => isCode c || c.before args0 about1) = true := by decide +kernel
theorem w_tables : (allAtoms (Jvm.Cond.code x code maxLocals ret :: tables_1)).before args0 about1 = true := by
  rw [allAtoms_all]
  show words1.all (fun c => c.before args0 about1) = true
  refine all_split ?_ w_codes
  rw [← List.take_append_drop 24 words1, List.all_append, w_t1, ← List.take_append_drop 24 (words1.drop 24), List.all_append, w_t2, ← List.take_append_drop 24 ((words1.drop 24).drop 24), List.all_append, w_t3, ← List.take_append_drop 24 (((words1.drop 24).drop 24).drop 24), List.all_append, w_t4, ← List.take_append_drop 24 ((((words1.drop 24).drop 24).drop 24).drop 24), List.all_append, w_t5, w_t6]
  rfl
set_option maxRecDepth 65536 in
theorem w_rest : rest_1_c.before args0 about1 = true := by decide +kernel
set_option maxRecDepth 65536 in
theorem w_case : (Jvm.Cond.and given_1 narrow_1).before args0 about1 = true := by decide +kernel
theorem w_applies : (headSpec (Jvm.Cond.code x code maxLocals ret :: tables_1) room_1).applies x e0.platform about1 = true :=
  (Spec.applies_iff w_frames).mpr ⟨w_running, w_runnable, w_alone, w_named, w_hears, w_ripe, w_room, w_tables⟩
theorem atStart : AtStart classFile x code maxLocals ret World_1 tables_1 room_1 Calls_1 rest_1 Pre_1 launch0 p0 e0 about1 theMethod args0 below0 :=
  ⟨lists_1, trivial, launch0.admits_env _ _ _, launch0.least_env, fairChoices_fair.cas, fairChoices_fair.clock, w_frames, w_args, w_heap, w_applies, trivial, w_rest, w_case⟩
end start1
theorem witness_1 : WitnessClaimed_1 := ⟨start1.p0, start1.e0, start1.about1, start1.theMethod, start1.args0, start1.below0, start1.atStart⟩
end Jvm.Pilot.@@N@@
