import PyProof.Rows.All
import Wide.All
import OpenK.AllK
import Wide.FinOn
import PySem.Challenge.RW_nb0111_01
open PySem PySem.W PyProof.Rows
set_option Elab.async false
set_option maxRecDepth 100000
set_option maxHeartbeats 8000000
set_option linter.unusedVariables false
namespace Mine
open_top hd for PySem.Challenge.rw_nb0111_01

-- part: Pl1
theorem srt_mono {ns : List Int} (hs : ns.Pairwise (· ≤ ·)) {i j : Nat} (hij : i ≤ j) (hj : j < ns.length) : ns.getD i 0 ≤ ns.getD j 0 := by
  rcases Nat.eq_or_lt_of_le hij with rfl | h
  · exact Int.le_refl _
  · have := List.pairwise_iff_getElem.mp hs i j (by omega) hj h
    have hi : i < ns.length := by omega
    simpa [List.getD_eq_getElem?_getD, hi, hj] using this

/-- what bisect_left keeps -/
def BisL (ns : List Int) (x : Int) (lo hi : Int) : Prop :=
  (∀ i : Nat, (i : Int) < lo → ns.getD i 0 < x) ∧ (∀ i : Nat, hi ≤ (i : Int) → i < ns.length → x ≤ ns.getD i 0)
/-- what bisect_right keeps -/
def BisR (ns : List Int) (x : Int) (lo hi : Int) : Prop :=
  (∀ i : Nat, (i : Int) < lo → ns.getD i 0 ≤ x) ∧ (∀ i : Nat, hi ≤ (i : Int) → i < ns.length → x < ns.getD i 0)

theorem mid_facts {lo hi : Int} (h0 : 0 ≤ lo) (h : lo < hi) : lo ≤ (lo + hi).fdiv 2 ∧ (lo + hi).fdiv 2 < hi := by
  rw [Int.fdiv_eq_ediv_of_nonneg _ (by omega : (0 : Int) ≤ 2)]; omega

theorem bl_start (ns : List Int) (x : Int) : (0 : Int) ≤ 0 ∧ (0 : Int) ≤ (ns.length : Int) ∧ (ns.length : Int) ≤ (ns.length : Int) ∧ BisL ns x 0 (ns.length : Int) :=
  ⟨by omega, by omega, by omega, fun i h => by omega, fun i h h' => by omega⟩
theorem br_start (ns : List Int) (x : Int) : (0 : Int) ≤ 0 ∧ (0 : Int) ≤ (ns.length : Int) ∧ (ns.length : Int) ≤ (ns.length : Int) ∧ BisR ns x 0 (ns.length : Int) :=
  ⟨by omega, by omega, by omega, fun i h => by omega, fun i h h' => by omega⟩

section
variable {ns : List Int} {x lo hi : Int} (hs : ns.Pairwise (· ≤ ·)) (h0 : 0 ≤ lo) (h2 : hi ≤ (ns.length : Int))
include hs h0 h2
theorem bl_lo (hb : BisL ns x lo hi) (hlt : lo < hi) (hx : ns.getD ((lo + hi).fdiv 2).toNat 0 < x) :
    0 ≤ (lo + hi).fdiv 2 + 1 ∧ (lo + hi).fdiv 2 + 1 ≤ hi ∧ hi ≤ (ns.length : Int) ∧ BisL ns x ((lo + hi).fdiv 2 + 1) hi := by
  have hm := mid_facts h0 hlt
  refine ⟨by omega, by omega, h2, fun i hi' => ?_, hb.2⟩
  have := srt_mono hs (i := i) (j := ((lo + hi).fdiv 2).toNat) (by omega) (by omega)
  omega
theorem bl_hi (hb : BisL ns x lo hi) (hlt : lo < hi) (hx : ¬ ns.getD ((lo + hi).fdiv 2).toNat 0 < x) :
    0 ≤ lo ∧ lo ≤ (lo + hi).fdiv 2 ∧ (lo + hi).fdiv 2 ≤ (ns.length : Int) ∧ BisL ns x lo ((lo + hi).fdiv 2) := by
  have hm := mid_facts h0 hlt
  refine ⟨h0, by omega, by omega, hb.1, fun i hi' hl => ?_⟩
  have := srt_mono hs (i := ((lo + hi).fdiv 2).toNat) (j := i) (by omega) (by omega)
  omega
theorem br_lo (hb : BisR ns x lo hi) (hlt : lo < hi) (hx : ¬ x < ns.getD ((lo + hi).fdiv 2).toNat 0) :
    0 ≤ (lo + hi).fdiv 2 + 1 ∧ (lo + hi).fdiv 2 + 1 ≤ hi ∧ hi ≤ (ns.length : Int) ∧ BisR ns x ((lo + hi).fdiv 2 + 1) hi := by
  have hm := mid_facts h0 hlt
  refine ⟨by omega, by omega, h2, fun i hi' => ?_, hb.2⟩
  have := srt_mono hs (i := i) (j := ((lo + hi).fdiv 2).toNat) (by omega) (by omega)
  omega
theorem br_hi (hb : BisR ns x lo hi) (hlt : lo < hi) (hx : x < ns.getD ((lo + hi).fdiv 2).toNat 0) :
    0 ≤ lo ∧ lo ≤ (lo + hi).fdiv 2 ∧ (lo + hi).fdiv 2 ≤ (ns.length : Int) ∧ BisR ns x lo ((lo + hi).fdiv 2) := by
  have hm := mid_facts h0 hlt
  refine ⟨h0, by omega, by omega, hb.1, fun i hi' hl => ?_⟩
  have := srt_mono hs (i := ((lo + hi).fdiv 2).toNat) (j := i) (by omega) (by omega)
  omega
end

theorem less_lo {lo hi : Int} (h0 : 0 ≤ lo) (h : lo < hi) : (hi - ((lo + hi).fdiv 2 + 1)).toNat < (hi - lo).toNat := by
  have := mid_facts h0 h; omega
theorem less_hi {lo hi : Int} (h0 : 0 ≤ lo) (h : lo < hi) : ((lo + hi).fdiv 2 - lo).toNat < (hi - lo).toNat := by
  have := mid_facts h0 h; omega

/-- what bisect_left hands back -/
def EndL (ns : List Int) (x r : Int) : Prop := 0 ≤ r ∧ r ≤ (ns.length : Int) ∧ BisL ns x r r
def EndR (ns : List Int) (x r : Int) : Prop := 0 ≤ r ∧ r ≤ (ns.length : Int) ∧ BisR ns x r r
theorem endL_of {ns : List Int} {x lo hi : Int} (h0 : 0 ≤ lo) (h1 : lo ≤ hi) (h2 : hi ≤ (ns.length : Int)) (hb : BisL ns x lo hi) (h : ¬ lo < hi) : EndL ns x lo := by
  have e : lo = hi := by omega
  subst e; exact ⟨h0, h2, hb⟩
theorem endR_of {ns : List Int} {x lo hi : Int} (h0 : 0 ≤ lo) (h1 : lo ≤ hi) (h2 : hi ≤ (ns.length : Int)) (hb : BisR ns x lo hi) (h : ¬ lo < hi) : EndR ns x lo := by
  have e : lo = hi := by omega
  subst e; exact ⟨h0, h2, hb⟩

-- part: Hdr
/-- a def's contract: from any caller's frame, with this ledger, it comes back with a value and a ledger of which Post holds -/
abbrev Ctr (w : World) (mean : ExcName → Option Value) (mg mb : Str → Option Value) (dd uu : Nat) (f : Addr) (args : List Value) (news : List (Addr × Obj)) (Post : Value → List (Addr × Obj) → Prop) : Prop :=
  ∀ (dp un : Nat) (gd : Option (List Code)) (cn : Str) (cs : Scope) (a : Addr) (ccd : Value) (cl : List (Str × Addr)) (outer : List Env) (A₀ : Around) (base h₀ : Heap) (L : Addr) (m : Str → Option Value) (s : Shared) (Q E : Value → Shared → Prop),
    Below A₀ base outer h₀ → Fr h₀ L s.heap m → (Mine.hd.heap_39 w.params).In h₀ → News h₀ L s.heap news →
    Top Mine.hd.view_39 (looseW Mine.hd.view_39 [Str.ofString "insort_right", Str.ofString "bisect_right", Str.ofString "bisect_left"]) mean mg mb h₀ → cs.kind = .function →
    dp + dd < recursionLimit → un + uu < cLine →
    (∀ (v : Value) (news' : List (Addr × Obj)) (h' : Heap) (tk' : Nat), Fr h₀ L h' m → News h₀ L h' news' → Post v news' → Q v { s with heap := h', toks := tk' }) →
    wpAny (model PySem.Challenge.rw_nb0111_01.row.prog w) (ktrTop dp un gd cn cs L a ccd cl outer) (call (.ref f) args) Q E s

local macro_rules | `(tactic| cell_enter) => `(tactic| (refine' code_def ?k1 ?k2 ?k3 ?k4 ?k5 ?kA ?kF ?kK ?k6 ?k7 ?k8 ?k9 ?kB ?_ ?c2 ?c3 ?c4 ?c5; (case kA => exact rfl); (case kF => exact rfl); (case kK => assumption); (case k1 => k_asm); (case k2 => k_asm); (case k3 => k_asm); (case k4 => k_asm); (case k5 => k_asm); (case k6 => k_is); (case k7 => k_is); (case k8 => ktr_room); (case k9 => first | exact BindsTo.of_eq rfl | (refine' kp_binds ?kx ?ke; (case kx => k_in); (case ke => exact fun _ => rfl))); (case c5 => decide); (case kB => exact locs rfl); (case c2 => exact rfl); (case c3 => exact rfl); (case c4 => exact rfl); k_whole; intro g' L' h' FG' F' N' B' X' T'; (try dsimp only); (try k_lift B'); (try k_fold)))

-- part: Bis
theorem bl_ctr (w : World) (mean : ExcName → Option Value) (mg mb : Str → Option Value) (l : Addr) (vs : List Value) (ns : List Int) (nn : Nat) (x : Int) (tx : Tok) (own : List (Addr × Obj))
    (hI : IntsAre vs ns) (hlen : ns.length ≤ 64) (hsort : ns.Pairwise (· ≤ ·)) :
    Ctr w mean mg mb 1 20 48 [.ref l, .int x tx] ((l, W.listOf vs.toArray nn) :: own) (fun v news' => ∃ r t, v = .int r t ∧ news' = (l, W.listOf vs.toArray nn) :: own ∧ EndL ns x r) := by
  unfold Ctr
  k_fill
  intro dp un gd cn cs a ccd cl outer A₀ base h₀ L m s Q E B F X N T hk hd hu hret
  refine wpAny_call ?_
  k_dflt cell_enter
  (k_with "exec While Compare cons nil" => k_while_given ["x"] (fun x ns lo hi => 0 ≤ lo ∧ lo ≤ hi ∧ hi ≤ (ns.length : Int) ∧ BisL ns x lo hi) (fun x ns lo hi => (hi - lo).toNat) "lo" "hi")
  (k_with "state" => first | exact bl_start _ _ | exact bl_lo (by assumption) (by assumption) (by assumption) (by assumption) (by assumption) (by assumption) | exact bl_hi (by assumption) (by assumption) (by assumption) (by assumption) (by assumption) (by assumption))
  (k_with "measure" => first | exact less_lo (by assumption) (by assumption) | exact less_hi (by assumption) (by assumption))
  k_steps
  all_goals (refine hret _ _ _ _ (by k_asm) (by k_asm) ⟨_, _, rfl, rfl, endL_of (by assumption) (by assumption) (by assumption) (by assumption) (by assumption)⟩)

theorem br_ctr2 (w : World) (mean : ExcName → Option Value) (mg mb : Str → Option Value) (l : Addr) (vs : List Value) (ns : List Int) (nn : Nat) (x : Int) (tx : Tok) (own : List (Addr × Obj))
    (hI : IntsAre vs ns) (hlen : ns.length ≤ 64) (hsort : ns.Pairwise (· ≤ ·)) :
    Ctr w mean mg mb 1 20 39 [.ref l, .int x tx] ((l, W.listOf vs.toArray nn) :: own) (fun v news' => ∃ r t, v = .int r t ∧ news' = (l, W.listOf vs.toArray nn) :: own ∧ EndR ns x r) := by
  unfold Ctr
  k_fill
  intro dp un gd cn cs a ccd cl outer A₀ base h₀ L m s Q E B F X N T hk hd hu hret
  refine wpAny_call ?_
  k_dflt cell_enter
  (k_with "exec While Compare cons nil" => k_while_given ["x"] (fun x ns lo hi => 0 ≤ lo ∧ lo ≤ hi ∧ hi ≤ (ns.length : Int) ∧ BisR ns x lo hi) (fun x ns lo hi => (hi - lo).toNat) "lo" "hi")
  (k_with "state" => first | exact br_start _ _ | exact br_lo (by assumption) (by assumption) (by assumption) (by assumption) (by assumption) (by assumption) | exact br_hi (by assumption) (by assumption) (by assumption) (by assumption) (by assumption) (by assumption))
  (k_with "measure" => first | exact less_lo (by assumption) (by assumption) | exact less_hi (by assumption) (by assumption))
  k_steps
  all_goals (refine hret _ _ _ _ (by k_asm) (by k_asm) ⟨_, _, rfl, rfl, endR_of (by assumption) (by assumption) (by assumption) (by assumption) (by assumption)⟩)

theorem br_ctr4 (w : World) (mean : ExcName → Option Value) (mg mb : Str → Option Value) (l : Addr) (vs : List Value) (ns : List Int) (nn : Nat) (x : Int) (tx t0 : Tok) (own : List (Addr × Obj))
    (hI : IntsAre vs ns) (hlen : ns.length ≤ 64) (hsort : ns.Pairwise (· ≤ ·)) :
    Ctr w mean mg mb 1 20 39 [.ref l, .int x tx, .int 0 t0, .none] ((l, W.listOf vs.toArray nn) :: own) (fun v news' => ∃ r t, v = .int r t ∧ news' = (l, W.listOf vs.toArray nn) :: own ∧ EndR ns x r) := by
  unfold Ctr
  k_fill
  intro dp un gd cn cs a ccd cl outer A₀ base h₀ L m s Q E B F X N T hk hd hu hret
  refine wpAny_call ?_
  k_dflt cell_enter
  (k_with "exec While Compare cons nil" => k_while_given ["x"] (fun x ns lo hi => 0 ≤ lo ∧ lo ≤ hi ∧ hi ≤ (ns.length : Int) ∧ BisR ns x lo hi) (fun x ns lo hi => (hi - lo).toNat) "lo" "hi")
  (k_with "state" => first | exact br_start _ _ | exact br_lo (by assumption) (by assumption) (by assumption) (by assumption) (by assumption) (by assumption) | exact br_hi (by assumption) (by assumption) (by assumption) (by assumption) (by assumption) (by assumption))
  (k_with "measure" => first | exact less_lo (by assumption) (by assumption) | exact less_hi (by assumption) (by assumption))
  k_steps
  all_goals (refine hret _ _ _ _ (by k_asm) (by k_asm) ⟨_, _, rfl, rfl, endR_of (by assumption) (by assumption) (by assumption) (by assumption) (by assumption)⟩)

-- part: Pl2
/-- the line above nought that a value holds -/
def pos1 : Value → List Int
  | .int i _ => if 0 < i then [i] else []
  | _ => []
def posL (kvs : List (Int × Value)) : List Int := kvs.flatMap fun p => pos1 p.2
def ValOk (v : Value) : Prop := v = .none ∨ ∃ i t, v = .int i t ∧ 0 ≤ i ∧ i < 1000000
def KvOk (kvs : List (Int × Value)) : Prop := (kvs.map (·.1)).Nodup ∧ ∀ p ∈ kvs, (0 ≤ p.1 ∧ p.1 < 4) ∧ ValOk p.2
/-- what holds between the deeds -/
def Inv (kvs : List (Int × Value)) (ns : List Int) : Prop := KvOk kvs ∧ ns.Pairwise (· ≤ ·) ∧ ns.Perm (posL kvs)

theorem small_len : ∀ (n : Nat) (l : List Int), l.Nodup → (∀ x ∈ l, 0 ≤ x ∧ x < (n : Int)) → l.length ≤ n := by
  intro n
  induction n with
  | zero =>
    intro l _ h
    cases l with
    | nil => simp
    | cons a l => have := h a (.head _); omega
  | succ n ih =>
    intro l hn h
    have h1 := ih (l.erase (n : Int)) (hn.erase _) fun x hx => by
      have hm := List.mem_of_mem_erase hx
      have := h x hm
      have hne : x ≠ (n : Int) := fun e => by
        subst e
        exact (List.Nodup.not_mem_erase hn) hx
      omega
    rw [List.length_erase] at h1
    split at h1 <;> omega
theorem KvOk.len {kvs : List (Int × Value)} (h : KvOk kvs) : kvs.length ≤ 4 := by
  have := small_len 4 (kvs.map (·.1)) h.1 fun x hx => by
    obtain ⟨p, hp, rfl⟩ := List.mem_map.mp hx
    exact (h.2 p hp).1
  simpa using this
theorem pos1_len (v : Value) : (pos1 v).length ≤ 1 := by
  unfold pos1
  split
  · split <;> simp
  · simp
theorem posL_len : ∀ kvs : List (Int × Value), (posL kvs).length ≤ kvs.length
  | [] => by simp [posL]
  | p :: kvs => by
    have h1 := posL_len kvs
    have h2 := pos1_len p.2
    simp only [posL, List.flatMap_cons, List.length_append, List.length_cons] at h1 ⊢
    omega
theorem Inv.len {kvs : List (Int × Value)} {ns : List Int} (h : Inv kvs ns) : ns.length ≤ 4 := by
  have h1 := h.1.len
  have h2 := posL_len kvs
  have h3 := h.2.2.length_eq
  omega
theorem inv_nil : Inv [] [] := ⟨⟨by simp, fun p hp => nomatch hp⟩, .nil, .refl _⟩

theorem valueAt_none {kvs : List (Int × Value)} {k : Int} (h : valueAt kvs k = none) : ∀ p ∈ kvs, p.1 ≠ k := by
  unfold valueAt at h
  simp only [Option.map_eq_none_iff, List.find?_eq_none, decide_eq_true_eq] at h
  exact h
theorem valueAt_none_of {kvs : List (Int × Value)} {k : Int} (h : ∀ p ∈ kvs, p.1 ≠ k) : valueAt kvs k = none := by
  unfold valueAt
  simp only [Option.map_eq_none_iff, List.find?_eq_none, decide_eq_true_eq]
  exact h
theorem without_cons (p : Int × Value) (kvs : List (Int × Value)) (k : Int) : without (p :: kvs) k = if p.1 = k then without kvs k else p :: without kvs k := by
  unfold without
  rw [List.filter_cons]
  by_cases h : p.1 = k <;> simp [h]
theorem without_same {kvs : List (Int × Value)} {k : Int} (h : ∀ p ∈ kvs, p.1 ≠ k) : without kvs k = kvs := by
  unfold without
  rw [List.filter_eq_self]
  intro p hp
  simp [h p hp]
theorem valueAt_mem {kvs : List (Int × Value)} {k : Int} {v : Value} (h : valueAt kvs k = some v) : (k, v) ∈ kvs := by
  unfold valueAt at h
  simp only [Option.map_eq_some_iff] at h
  obtain ⟨p, hp, rfl⟩ := h
  have h1 := List.mem_of_find?_eq_some hp
  have h2 := List.find?_some hp
  simp only [decide_eq_true_eq] at h2
  rw [← h2]
  exact h1
theorem posL_without {k : Int} {v : Value} : ∀ {kvs : List (Int × Value)}, (kvs.map (·.1)).Nodup → valueAt kvs k = some v → (posL kvs).Perm (pos1 v ++ posL (without kvs k))
  | [], _, h => by simp [valueAt] at h
  | p :: kvs, hn, h => by
    rw [List.map_cons, List.nodup_cons] at hn
    by_cases e : p.1 = k
    · have hv : p.2 = v := by
        unfold valueAt at h
        rw [List.find?_cons_of_pos (by simpa using e)] at h
        simpa using h
      have hne : ∀ q ∈ kvs, q.1 ≠ k := fun q hq e' => hn.1 (List.mem_map.mpr ⟨q, hq, by rw [e', e]⟩)
      rw [without_cons, if_pos e, without_same hne]
      simp [posL, hv]
    · have hv : valueAt kvs k = some v := by
        unfold valueAt at h ⊢
        rwa [List.find?_cons_of_neg (by simpa using e)] at h
      rw [without_cons, if_neg e]
      have ih := posL_without hn.2 hv
      simp only [posL, List.flatMap_cons] at ih ⊢
      refine (ih.append_left _).trans ?_
      rw [← List.append_assoc, ← List.append_assoc]
      exact List.Perm.append_right _ List.perm_append_comm
theorem KvOk.without {kvs : List (Int × Value)} (h : KvOk kvs) (k : Int) : KvOk (without kvs k) :=
  ⟨nodup_without h.1 k, fun p hp => h.2 p (List.mem_filter.mp hp).1⟩
theorem without_none (kvs : List (Int × Value)) (k : Int) : valueAt (PySem.without kvs k) k = none :=
  valueAt_none_of fun p hp => by
    have := (List.mem_filter.mp hp).2
    simpa using this

/-- the table with one place emptied: what went is ex -/
def Gone (kvs : List (Int × Value)) (k : Int) (ex : List Int) (kvs1 : List (Int × Value)) : Prop := KvOk kvs1 ∧ valueAt kvs1 k = none ∧ (posL kvs).Perm (ex ++ posL kvs1)
theorem gone_absent {kvs : List (Int × Value)} {k : Int} (h : KvOk kvs) (hv : valueAt kvs k = none) : Gone kvs k [] kvs := ⟨h, hv, .refl _⟩
theorem gone_there {kvs : List (Int × Value)} {k : Int} {v : Value} (h : KvOk kvs) (hv : valueAt kvs k = some v) : ValOk v ∧ Gone kvs k (pos1 v) (without kvs k) :=
  ⟨(h.2 _ (valueAt_mem hv)).2, h.without k, without_none _ _, posL_without h.1 hv⟩

theorem stored_new {kvs : List (Int × Value)} {k : Int} (h : valueAt kvs k = none) (v : Value) : stored kvs k v = kvs ++ [(k, v)] := by
  unfold stored
  have := valueAt_none h
  rw [if_neg]
  simp only [List.any_eq_true, decide_eq_true_eq, not_exists, not_and]
  exact this
theorem stored_ok {kvs : List (Int × Value)} {k : Int} {v : Value} (h : KvOk kvs) (hv : valueAt kvs k = none) (h0 : 0 ≤ k) (h4 : k < 4) (ho : ValOk v) : KvOk (stored kvs k v) := by
  rw [stored_new hv]
  have hne := valueAt_none hv
  refine ⟨?_, fun p hp => ?_⟩
  · rw [List.map_append, List.nodup_append]
    refine ⟨h.1, by simp, fun a ha b hb => ?_⟩
    obtain ⟨p, hp, rfl⟩ := List.mem_map.mp ha
    simp only [List.map_cons, List.map_nil, List.mem_singleton] at hb
    subst hb
    exact hne p hp
  · rcases List.mem_append.mp hp with hp | hp
    · exact h.2 p hp
    · rw [List.mem_singleton.mp hp]; exact ⟨⟨h0, h4⟩, ho⟩
theorem stored_pos {kvs : List (Int × Value)} {k : Int} (hv : valueAt kvs k = none) (v : Value) : posL (stored kvs k v) = posL kvs ++ pos1 v := by
  rw [stored_new hv]; simp [posL]
theorem stored_at {kvs : List (Int × Value)} {k : Int} (hv : valueAt kvs k = none) (v : Value) : valueAt (stored kvs k v) k = some v := by
  rw [stored_new hv]
  unfold valueAt
  rw [List.find?_append]
  have hne := valueAt_none hv
  have : List.find? (fun kv => decide (kv.1 = k)) kvs = none := by
    simp only [List.find?_eq_none, decide_eq_true_eq]; exact hne
  rw [this]; simp

/-- a list less one place -/
def remAt (ns : List Int) (r : Int) : List Int := ns.take r.toNat ++ ns.drop (r.toNat + 1)
/-- a list with one int put in at a place -/
def insAt (ns : List Int) (r : Int) (v : Int) : List Int := ns.take r.toNat ++ v :: ns.drop r.toNat

theorem getD_of {ns : List Int} {i : Nat} (h : i < ns.length) : ns.getD i 0 = ns[i] := by simp [List.getD_eq_getElem?_getD, h]
theorem endL_at {ns : List Int} {x r : Int} (hm : x ∈ ns) (he : EndL ns x r) (hs : ns.Pairwise (· ≤ ·)) : r < (ns.length : Int) ∧ ns.getD r.toNat 0 = x := by
  obtain ⟨h0, h1, hl, hr⟩ := he
  obtain ⟨i, hi, rfl⟩ := List.mem_iff_getElem.mp hm
  have hge : ¬ (i : Int) < r := fun h => by
    have := hl i h
    rw [getD_of hi] at this; omega
  refine ⟨by omega, ?_⟩
  have h2 := hr r.toNat (by omega) (by omega)
  have h3 := srt_mono hs (i := r.toNat) (j := i) (by omega) hi
  rw [getD_of hi] at h3
  omega
theorem rem_split {ns : List Int} {r : Int} (h0 : 0 ≤ r) (h1 : r < (ns.length : Int)) : ns = ns.take r.toNat ++ ns.getD r.toNat 0 :: ns.drop (r.toNat + 1) := by
  have h : r.toNat < ns.length := by omega
  rw [getD_of h]
  simp
theorem rem_srt {ns : List Int} {r : Int} (hs : ns.Pairwise (· ≤ ·)) (h0 : 0 ≤ r) (h1 : r < (ns.length : Int)) : (remAt ns r).Pairwise (· ≤ ·) := by
  have e := rem_split h0 h1
  rw [e] at hs
  unfold remAt
  rw [List.pairwise_append] at hs ⊢
  exact ⟨hs.1, (List.pairwise_cons.mp hs.2.1).2, fun a ha b hb => hs.2.2 a ha b (.tail _ hb)⟩
theorem rem_perm {ns : List Int} {r : Int} (h0 : 0 ≤ r) (h1 : r < (ns.length : Int)) : ns.Perm (ns.getD r.toNat 0 :: remAt ns r) := by
  have e := rem_split h0 h1
  unfold remAt
  conv => lhs; rw [e]
  exact List.perm_middle
theorem ins_perm (ns : List Int) (r v : Int) : (insAt ns r v).Perm (v :: ns) := by
  unfold insAt
  refine List.perm_middle.trans ?_
  rw [List.take_append_drop]
theorem ins_srt {ns : List Int} {x r : Int} (hs : ns.Pairwise (· ≤ ·)) (he : EndR ns x r) : (insAt ns r x).Pairwise (· ≤ ·) := by
  obtain ⟨h0, h1, hl, hr⟩ := he
  unfold insAt
  rw [List.pairwise_append]
  have hs' := hs
  rw [← List.take_append_drop r.toNat ns, List.pairwise_append] at hs'
  have htake : ∀ a ∈ ns.take r.toNat, a ≤ x := fun a ha => by
    obtain ⟨i, hi, rfl⟩ := List.mem_iff_getElem.mp ha
    have hi2 := hi
    rw [List.length_take] at hi2
    have := hl i (by omega)
    rw [getD_of (by omega)] at this
    simpa using this
  have hdrop : ∀ a ∈ ns.drop r.toNat, x ≤ a := fun a ha => by
    obtain ⟨i, hi, rfl⟩ := List.mem_iff_getElem.mp ha
    have hi2 := hi
    rw [List.length_drop] at hi2
    have := hr (r.toNat + i) (by omega) (by omega)
    rw [getD_of (by omega)] at this
    simp only [List.getElem_drop]
    omega
  refine ⟨hs'.1, List.pairwise_cons.mpr ⟨hdrop, hs'.2.1⟩, fun a ha b hb => ?_⟩
  rcases List.mem_cons.mp hb with rfl | hb
  · exact htake a ha
  · exact hs'.2.2 a ha b hb

-- part: Pl3
/-- the table with its place k empty, and the list that goes with it -/
def Mid (kvs1 : List (Int × Value)) (k : Int) (ns1 : List Int) : Prop := KvOk kvs1 ∧ valueAt kvs1 k = none ∧ ns1.Pairwise (· ≤ ·) ∧ ns1.Perm (posL kvs1)
theorem mid_none {kvs kvs1 : List (Int × Value)} {k : Int} {ns : List Int} (h : Inv kvs ns) (g : Gone kvs k [] kvs1) : Mid kvs1 k ns := ⟨g.1, g.2.1, h.2.1, h.2.2.trans g.2.2⟩
theorem old_at {kvs kvs1 : List (Int × Value)} {k i r : Int} {ns : List Int} (h : Inv kvs ns) (g : Gone kvs k [i] kvs1) (he : EndL ns i r) : r < (ns.length : Int) ∧ Mid kvs1 k (remAt ns r) := by
  have hperm := h.2.2.trans g.2.2
  have hm : i ∈ ns := hperm.mem_iff.mpr (by simp)
  obtain ⟨h1, h2⟩ := endL_at hm he h.2.1
  refine ⟨h1, g.1, g.2.1, rem_srt h.2.1 he.1 h1, ?_⟩
  have h3 := (rem_perm he.1 h1).symm.trans hperm
  rw [h2] at h3
  exact List.Perm.cons_inv h3
theorem Inv.len64 {kvs : List (Int × Value)} {ns : List Int} (h : Inv kvs ns) : ns.length ≤ 64 := by have := h.len; omega
theorem KvOk.fits {kvs : List (Int × Value)} (h : KvOk kvs) : kvs.length ≤ sizeLine := by have := h.len; rw [sizeLine_eq]; omega
section
variable {kvs1 : List (Int × Value)} {k : Int} {ns1 : List Int} (h : Mid kvs1 k ns1)
include h
theorem Mid.len : ns1.length ≤ 64 := by
  have h1 := h.1.len
  have h2 := posL_len kvs1
  have h3 := h.2.2.2.length_eq
  omega
theorem Mid.inv : Inv kvs1 ns1 := ⟨h.1, h.2.2⟩
theorem Mid.putNone (h0 : 0 ≤ k) (h4 : k < 4) : Inv (stored kvs1 k .none) ns1 := by
  refine ⟨stored_ok h.1 h.2.1 h0 h4 (.inl rfl), h.2.2.1, ?_⟩
  rw [stored_pos h.2.1]; simpa [pos1] using h.2.2.2
theorem Mid.putZero {v : Int} {t : Tok} (h0 : 0 ≤ k) (h4 : k < 4) (hv : 0 ≤ v) (hv' : v < 1000000) (hz : ¬ 0 < v) : Inv (stored kvs1 k (.int v t)) ns1 := by
  refine ⟨stored_ok h.1 h.2.1 h0 h4 (.inr ⟨v, t, rfl, hv, hv'⟩), h.2.2.1, ?_⟩
  rw [stored_pos h.2.1]; simpa [pos1, hz] using h.2.2.2
theorem Mid.putPos {v r : Int} {t : Tok} (h0 : 0 ≤ k) (h4 : k < 4) (hv : 0 ≤ v) (hv' : v < 1000000) (hz : 0 < v) (he : EndR ns1 v r) : Inv (stored kvs1 k (.int v t)) (insAt ns1 r v) := by
  refine ⟨stored_ok h.1 h.2.1 h0 h4 (.inr ⟨v, t, rfl, hv, hv'⟩), ins_srt h.2.2.1 he, ?_⟩
  rw [stored_pos h.2.1]
  simp only [pos1, hz, if_true]
  refine (ins_perm ns1 r v).trans ?_
  refine (h.2.2.2.cons v).trans ?_
  exact (List.perm_append_comm (l₁ := [v]) (l₂ := posL kvs1))
end
theorem fm4 (x : Int) : 0 ≤ x.fmod 4 ∧ x.fmod 4 < 4 := ⟨Int.fmod_nonneg_of_pos _ (by decide), Int.fmod_lt_of_pos _ (by decide)⟩
theorem fmM (x : Int) : 0 ≤ x.fmod (10 ^ Int.toNat 6) ∧ x.fmod (10 ^ Int.toNat 6) < 1000000 := ⟨Int.fmod_nonneg_of_pos _ (by decide), Int.fmod_lt_of_pos _ (by decide)⟩

-- part: Hdr2
theorem Ctr.use {w : World} {mean : ExcName → Option Value} {mg mb : Str → Option Value} {dd uu : Nat} {f : Addr} {args : List Value} {news : List (Addr × Obj)} {Post : Value → List (Addr × Obj) → Prop}
    (C : Ctr w mean mg mb dd uu f args news Post)
    {dp un : Nat} {gd : Option (List Code)} {cn : Str} {cs : Scope} {a : Addr} {ccd : Value} {cl : List (Str × Addr)} {outer : List Env} {A₀ : Around} {base h₀ : Heap} {L : Addr} {m : Str → Option Value} {s : Shared} {Q E : Value → Shared → Prop}
    (B : Below A₀ base outer h₀) (F : Fr h₀ L s.heap m) (X : (Mine.hd.heap_39 w.params).In h₀) (N : News h₀ L s.heap news)
    (T : Top Mine.hd.view_39 (looseW Mine.hd.view_39 [Str.ofString "insort_right", Str.ofString "bisect_right", Str.ofString "bisect_left"]) mean mg mb h₀) (hk : cs.kind = .function)
    (hd : dp + dd < recursionLimit) (hu : un + uu < cLine)
    (ret : ∀ (v : Value) (news' : List (Addr × Obj)) (h' : Heap) (tk' : Nat), Fr h₀ L h' m → News h₀ L h' news' → Post v news' → Q v { s with heap := h', toks := tk' }) :
    wpAny (model PySem.Challenge.rw_nb0111_01.row.prog w) (ktrTop dp un gd cn cs L a ccd cl outer) (call (.ref f) args) Q E s := C _ _ _ _ _ _ _ _ _ _ _ _ _ _ _ _ _ B F X N T hk hd hu ret

theorem offT {own : List (Addr × Obj)} {t l : Addr} (hoff : OwnOff own [t, l]) (htl : t < l) {ol : Obj} : ∀ p ∈ (l, ol) :: own, p.1 ≠ t := by
  intro p hp
  rcases List.mem_cons.mp hp with rfl | hp
  · exact Nat.ne_of_gt htl
  · exact hoff p hp t (.head _)
theorem offL {own : List (Addr × Obj)} {t l : Addr} (hoff : OwnOff own [t, l]) : ∀ p ∈ own, p.1 ≠ l := fun p hp => hoff p hp l (.tail _ (.head _))
theorem offTL {own : List (Addr × Obj)} {t l : Addr} (hoff : OwnOff own [t, l]) (htl : t < l) {ot : Obj} : OwnOff ((t, ot) :: own) [l] := by
  intro p hp b hb
  rw [List.mem_singleton.mp hb]
  rcases List.mem_cons.mp hp with rfl | hp
  · exact Nat.ne_of_lt htl
  · exact offL hoff p hp
theorem newsSwap {h₀ h : Heap} {L : Addr} {p q : Addr × Obj} {r : List (Addr × Obj)} (N : News h₀ L h (p :: q :: r)) : News h₀ L h (q :: p :: r) := fun x hx => N x (by
  rcases List.mem_cons.mp hx with rfl | hx
  · exact .tail _ (.head _)
  · rcases List.mem_cons.mp hx with rfl | hx
    · exact .head _
    · exact .tail _ (.tail _ hx))
theorem updL {t l : Addr} {ot ol ol' : Obj} {own : List (Addr × Obj)} (hoff : OwnOff own [t, l]) (htl : t < l) : Upd l ol ol' ((t, ot) :: (l, ol) :: own) ((t, ot) :: (l, ol') :: own) :=
  .tail (Nat.ne_of_lt htl) (.head (offL hoff))
theorem updT {t l : Addr} {ot ol : Obj} {own : List (Addr × Obj)} (hoff : OwnOff own [t, l]) (htl : t < l) : UpdF t ot ((t, ot) :: (l, ol) :: own) (fun o' => (t, o') :: (l, ol) :: own) :=
  .head (offT hoff htl)

theorem ints_take {us : List Value} {ns : List Int} (h : IntsAre us ns) : ∀ k, IntsAre (us.take k) (ns.take k) := by
  induction h with
  | nil => intro k; simp; exact .nil
  | cons n t r ih =>
    intro k
    cases k with
    | zero => exact .nil
    | succ k => exact .cons n t (ih k)
theorem ints_drop {us : List Value} {ns : List Int} (h : IntsAre us ns) : ∀ k, IntsAre (us.drop k) (ns.drop k) := by
  induction h with
  | nil => intro k; simp; exact .nil
  | cons n t r ih =>
    intro k
    cases k with
    | zero => exact .cons n t r
    | succ k => exact ih k
theorem ints_app {us us' : List Value} {ns ns' : List Int} (h : IntsAre us ns) (h' : IntsAre us' ns') : IntsAre (us ++ us') (ns ++ ns') := by
  induction h with
  | nil => exact h'
  | cons n t r ih => exact .cons n t ih

section
variable {prog : Program} {w : World} {A : Around} {E : Value → Shared → Prop} {s : Shared} {h₀ : Heap} {L D : Addr} {m : Str → Option Value} {news news' : List (Addr × Obj)} {n : Nat}
theorem ins_step {us : List Value} {ns : List Int} {r v : Int} {tr tv : Tok} {Q : Value → Shared → Prop} (F : Fr h₀ L s.heap m) (N : News h₀ L s.heap news) (hi : IntsAre us ns) (h0 : 0 ≤ r) (h1 : r ≤ (ns.length : Int)) (hl : ns.length ≤ 64)
    (U : Upd D (W.listOf us.toArray n) (W.listOf (us.take r.toNat ++ Value.int v tv :: us.drop r.toNat).toArray (n + 1)) news news')
    (h : ∀ h', Fr h₀ L h' m → News h₀ L h' news' → IntsAre (us.take r.toNat ++ Value.int v tv :: us.drop r.toNat) (insAt ns r v) → Q .none { s with heap := h' }) :
    wpAny (model prog w) A (call (.builtin "list.insert") [.ref D, .int r tr, .int v tv]) Q E s := by
  have hlen := hi.length
  refine kl_insert (its := us.toArray) (l := us.take r.toNat ++ Value.int v tv :: us.drop r.toNat) F N ?_ ?_ U ?_ fun h' F' N' => h h' F' N' (ints_app (ints_take hi _) (.cons v tv (ints_drop hi _)))
  · unfold Builtin.List.listFitsIndex
    simp
    omega
  · unfold kl_ins
    simp only [show ¬ r < 0 from by omega, if_false]
    have e : min r.toNat us.length = r.toNat := by omega
    simp [e]
  · simp [sizeLine_eq]; omega

theorem cut_at : ∀ (us : List Value) (k : Nat) (y : Value), us[k]? = some y → kl_cut us k = some (us.take k, y, us.drop (k + 1))
  | [], _, _, h => by simp at h
  | x :: r, 0, y, h => by simp at h; subst h; simp [kl_cut]
  | x :: r, k + 1, y, h => by
    have := cut_at r k y (by simpa using h)
    simp [kl_cut, this]
theorem rem_step {us : List Value} {ns : List Int} {r : Int} {tr : Tok} {Q : Value → Shared → Prop} (F : Fr h₀ L s.heap m) (N : News h₀ L s.heap news) (hi : IntsAre us ns) (h0 : 0 ≤ r) (h1 : r < (ns.length : Int)) (hl : ns.length ≤ 64)
    (U : Upd D (W.listOf us.toArray n) (W.listOf (us.take r.toNat ++ us.drop (r.toNat + 1)).toArray (n + 1)) news news')
    (h : ∀ h' t, Fr h₀ L h' m → News h₀ L h' news' → IntsAre (us.take r.toNat ++ us.drop (r.toNat + 1)) (remAt ns r) → Q (.int (ns.getD r.toNat 0) t) { s with heap := h' }) :
    wpAny (model prog w) A (call (.builtin "list.pop") [.ref D, .int r tr]) Q E s := by
  have hlen := hi.length
  have hlt : r.toNat < ns.length := by omega
  obtain ⟨t, ht⟩ := hi.get r.toNat (ns.getD r.toNat 0) (by rw [getD_of hlt]; simp [hlt])
  refine kl_popAt (its := us.toArray) (k := r.toNat) F N ?_ ?_ (cut_at us _ _ ht) U ?_ fun h' F' N' => h h' t F' N' (ints_app (ints_take hi _) (ints_drop hi _))
  · unfold Builtin.List.listFitsIndex
    simp
    omega
  · unfold seqIndex?
    simp only [show ¬ r < 0 from by omega, if_false, List.size_toArray]
    simp
    omega
  · simp [sizeLine_eq]; omega

theorem pop_step {d : Addr} {o : Obj} {g : Obj → List (Addr × Obj)} {kvs : List (Int × Value)} {ns : List Int} {k : Int} {tk : Tok} {Q : Value → Shared → Prop} (F : Fr h₀ L s.heap m) (N : News h₀ L s.heap news) (U : UpdF d o news g) (hd : o.IsDictOf (PySem.intKind prog w) kvs)
    (lo : (d == sysModules) = false) (hinv : Inv kvs ns)
    (hno : ∀ h' o' kvs1, Fr h₀ L h' m → News h₀ L h' (g o') → o'.IsDictOf (PySem.intKind prog w) kvs1 → Mid kvs1 k ns → Q .none { s with heap := h', toks := s.toks + 1 })
    (hzero : ∀ h' o' kvs1 t, Fr h₀ L h' m → News h₀ L h' (g o') → o'.IsDictOf (PySem.intKind prog w) kvs1 → Mid kvs1 k ns → Q (.int 0 t) { s with heap := h', toks := s.toks + 1 })
    (hpos : ∀ h' o' kvs1 i t, Fr h₀ L h' m → News h₀ L h' (g o') → o'.IsDictOf (PySem.intKind prog w) kvs1 → Gone kvs k [i] kvs1 → 0 < i → Q (.int i t) { s with heap := h', toks := s.toks + 1 }) :
    wpAny (model prog w) A (call (.builtin "dict.pop") [.ref d, .int k tk, .none]) Q E s := by
  obtain ⟨pre, post, rfl, hg, a, b⟩ := U.split
  have hm := N (d, o) (List.mem_append_right _ (.head _))
  have hD : s.heap.DictOf (PySem.intKind prog w) d kvs := Heap.dictOf_iff.mpr ⟨o, hm.1, hd⟩
  cases hv : valueAt kvs k with
  | none =>
    refine call_meetsIn PySem.F.slot_dict_pop hD.typeIs PySem.F.entry_dict_pop (PySem.F.args_dict_pop_3 _ _ _) (meets_dict_pop_default (PySem.intKind prog w) d (intKind_is _ _ k tk) lo rfl .none) ⟨kvs, hD, hv, ?_⟩
    exact hno s.heap o kvs F (hg o ▸ N) hd (mid_none hinv (gone_absent hinv.1 hv))
  | some v =>
    obtain ⟨hvo, hgone⟩ := gone_there hinv.1 hv
    refine call_meetsIn PySem.F.slot_dict_pop hD.typeIs PySem.F.entry_dict_pop (PySem.F.args_dict_pop_3 _ _ _) (meets_dict_pop_there (PySem.intKind prog w) d (intKind_is _ _ k tk) [.none] (.inr ⟨_, rfl⟩) rfl) ⟨kvs, v, hD, ?_, hv, fun h' hmm hs => ?_⟩
    · have := hinv.1.len; rw [sizeLine_eq]; omega
    · obtain ⟨o', ho', hd'⟩ := Heap.dictOf_iff.mp hmm
      have F' := F.change hs hm.2.1 hm.2.2
      have N' : News h₀ L h' (g o') := hg o' ▸ N.setIn a b hs ho'
      rcases hvo with rfl | ⟨i, t, rfl, h0, h1⟩
      · exact hno h' o' _ F' N' hd' (mid_none hinv hgone)
      · by_cases hi : 0 < i
        · exact hpos h' o' _ i t F' N' hd' (by simpa [pos1, hi] using hgone) hi
        · have e : i = 0 := by omega
          subst e
          exact hzero h' o' _ t F' N' hd' (mid_none hinv (by simpa [pos1] using hgone))
end

-- part: Ins
theorem ins_ctr (w : World) (mean : ExcName → Option Value) (mg mb : Str → Option Value) (l : Addr) (vs : List Value) (ns : List Int) (nn : Nat) (x : Int) (tx : Tok) (own : List (Addr × Obj))
    (hoff : OwnOff own [l]) (hI : IntsAre vs ns) (hlen : ns.length ≤ 64) (hsort : ns.Pairwise (· ≤ ·)) :
    Ctr w mean mg mb 2 40 30 [.ref l, .int x tx] ((l, W.listOf vs.toArray nn) :: own) (fun v news' => v = .none ∧ ∃ r us nn', EndR ns x r ∧ IntsAre us (insAt ns r x) ∧ news' = (l, W.listOf us.toArray nn') :: own) := by
  unfold Ctr
  k_fill
  k_with_none
  intro dp un gd cn cs a ccd cl outer A₀ base h₀ L m s Q E B F X N T hk hd hu hret
  refine wpAny_call ?_
  k_dflt cell_enter
  (k_with "call ref" => (k_here; (with_reducible show wpAny _ _ (call (Value.ref _) [Value.ref _, Value.int _ _, Value.int _ _, Value.none]) _ _ _); refine' Ctr.use (br_ctr4 w mean mg mb l vs ns nn x _ _ own hI hlen hsort) ?k1 ?k2 ?k3 ?k4 ?k5 ?kK ?kd ?ku ?_; (case k1 => k_asm); (case k2 => k_asm); (case k3 => k_asm); (case k4 => k_asm); (case k5 => k_asm); (case kK => exact rfl); (case kd => ktr_room); (case ku => ktr_units); rintro v9 news9 h9 tk9 F9 N9 ⟨r9, t9, e9, e9', hr9⟩; subst e9; subst e9'; (try dsimp only); (try k_fold)))
  (k_with "call builtin:list.insert" => (k_here; refine' ins_step ?F ?N hI ?h0 ?h1 hlen ?U ?_; (case F => k_asm); (case N => k_asm); (case h0 => exact hr9.1); (case h1 => exact hr9.2.1); (case U => k_upd); intro h9' F9' N9' hI9'; (try dsimp only)))
  k_steps
  all_goals (refine hret _ _ _ _ (by k_asm) (by k_asm) ⟨rfl, _, _, _, by assumption, by assumption, rfl⟩)

-- part: Done
theorem done_ctr (w : World) (mean : ExcName → Option Value) (mg mb : Str → Option Value) (t l : Addr) (o : Obj) (kvs : List (Int × Value)) (vs : List Value) (ns : List Int) (nn : Nat) (x : Int) (tx : Tok) (own : List (Addr × Obj))
    (hoff : OwnOff own [t, l]) (htl : t < l) (hD : o.IsDictOf (PySem.intKind PySem.Challenge.rw_nb0111_01.row.prog w) kvs) (lo : (t == sysModules) = false) (hI : IntsAre vs ns) (hinv : Inv kvs ns) :
    Ctr w mean mg mb 3 60 55 [.ref t, .ref l, .int x tx] ((t, o) :: (l, W.listOf vs.toArray nn) :: own)
      (fun v news' => v = .none ∧ ∃ o' kvs' vs' ns' nn', o'.IsDictOf (PySem.intKind PySem.Challenge.rw_nb0111_01.row.prog w) kvs' ∧ IntsAre vs' ns' ∧ Inv kvs' ns' ∧ news' = (t, o') :: (l, W.listOf vs'.toArray nn') :: own) := by
  unfold Ctr
  k_fill
  k_with_none
  intro dp un gd cn cs a ccd cl outer A₀ base h₀ L m s Q E B F X N T hk hd hu hret
  refine wpAny_call ?_
  k_dflt cell_enter
  (k_with "call builtin:dict.pop" => (k_here; refine' pop_step ?F ?N ?U hD lo hinv ?c1 ?c2 ?c3; (case F => k_asm); (case N => k_asm); (case U => exact updT hoff htl); (case' c1 => (intro h9 o9 kvs9 F9 N9 hD9 hM9; have hI9 := hI; (try dsimp only at N9); (try dsimp only))); (case' c2 => (intro h9 o9 kvs9 t9 F9 N9 hD9 hM9; have hI9 := hI; (try dsimp only at N9); (try dsimp only))); (case' c3 => (intro h9 o9 kvs9 i9 t9 F9 N9 hD9 hG9 hi9; (try dsimp only at N9); (try dsimp only)))))
  (k_with "call ref" => (k_here; first | (refine' Ctr.use (bl_ctr w mean mg mb l vs ns nn i9 t9 ((t, o9) :: own) hI hinv.len64 hinv.2.1) ?k1 ?k2 ?k3 ?k4 ?k5 ?kK ?kd ?ku ?_; (case k1 => k_asm); (case k2 => k_asm); (case k3 => k_asm); (case k4 => exact newsSwap (by k_asm)); (case k5 => k_asm); (case kK => exact rfl); (case kd => ktr_room); (case ku => ktr_units); (rintro v6 news6 h6 tk6 F6 N6 ⟨r6, t6, e6, e6', hr6⟩; subst e6; subst e6'; replace N6 := newsSwap N6; (try dsimp only); (try k_fold))) | (refine' Ctr.use (ins_ctr w mean mg mb l _ _ _ _ _ ((t, o8) :: own) (offTL hoff htl) hI9 hM9.len hM9.2.2.1) ?k1 ?k2 ?k3 ?k4 ?k5 ?kK ?kd ?ku ?_; (case k1 => k_asm); (case k2 => k_asm); (case k3 => k_asm); (case k4 => exact newsSwap (by k_asm)); (case k5 => k_asm); (case kK => exact rfl); (case kd => ktr_room); (case ku => ktr_units); (rintro v5 news5 h5 tk5 F5 N5 ⟨e5, r5, us5, nn5, hr5, hI5, e5'⟩; subst e5; subst e5'; replace N5 := newsSwap N5; (try dsimp only); (try k_fold)))))
  (k_with "call builtin:list.pop" => (k_here; have hO6 := old_at hinv hG9 hr6; refine' rem_step ?F ?N hI hr6.1 hO6.1 hinv.len64 ?U ?_; (case F => k_asm); (case N => k_asm); (case U => exact updL hoff htl); intro h7 t7 F7 N7 hI9; have hM9 := hO6.2; (try dsimp only)))
  (k_with "setItem ref int" => (k_here; refine' kda_set (knd := PySem.intKind _ _) ?F ?N ?U hD9 (intKind_is _ _ _ _) hM9.1.fits ?_; (case F => k_asm); (case N => k_asm); (case U => exact updT hoff htl); intro h8 o8 F8 N8 hD8; (try dsimp only at N8); (try dsimp only)))
  (k_with "subscriptTail" => (k_here; refine' kda_item (knd := PySem.intKind _ _) ?N ?m hD8 (intKind_is _ _ _ _) (stored_at hM9.2.1 _) ?_; (case N => k_asm); (case m => exact .head _); (try dsimp only)))
  k_steps
  all_goals (first
    | exact hret _ _ _ _ (by k_asm) (by k_asm) ⟨rfl, _, _, _, _, _, hD8, hI5, hM9.putPos (fm4 x).1 (fm4 x).2 (fmM _).1 (fmM _).2 (by assumption) hr5, rfl⟩
    | exact hret _ _ _ _ (by k_asm) (by k_asm) ⟨rfl, _, _, _, _, _, hD8, hI9, hM9.putNone (fm4 x).1 (fm4 x).2, rfl⟩
    | exact hret _ _ _ _ (by k_asm) (by k_asm) ⟨rfl, _, _, _, _, _, hD8, hI9, hM9.putZero (fm4 x).1 (fm4 x).2 (fmM _).1 (fmM _).2 (by assumption), rfl⟩
    | exact hret _ _ _ _ (by k_asm) (by k_asm) ⟨rfl, _, _, _, _, _, hD9, hI9, hM9.inv, rfl⟩)
/-- the same, the list ahead of the table -/
theorem done_in (w : World) (mean : ExcName → Option Value) (mg mb : Str → Option Value) (t l : Addr) (o : Obj) (kvs : List (Int × Value)) (vs : List Value) (ns : List Int) (nn : Nat) (x : Int) (tx : Tok) (own : List (Addr × Obj))
    (hoff : OwnOff own [t, l]) (htl : t < l) (hD : o.IsDictOf (PySem.intKind PySem.Challenge.rw_nb0111_01.row.prog w) kvs) (lo : (t == sysModules) = false) (hI : IntsAre vs ns) (hinv : Inv kvs ns) :
    Ctr w mean mg mb 3 60 55 [.ref t, .ref l, .int x tx] ((l, W.listOf vs.toArray nn) :: (t, o) :: own)
      (fun v news' => v = .none ∧ ∃ o' kvs' vs' ns' nn', o'.IsDictOf (PySem.intKind PySem.Challenge.rw_nb0111_01.row.prog w) kvs' ∧ IntsAre vs' ns' ∧ Inv kvs' ns' ∧ news' = (l, W.listOf vs'.toArray nn') :: (t, o') :: own) := by
  intro dp un gd cn cs a ccd cl outer A₀ base h₀ L m s Q E B F X N T hk hd hu hret
  refine done_ctr w mean mg mb t l o kvs vs ns nn x tx own hoff htl hD lo hI hinv dp un gd cn cs a ccd cl outer A₀ base h₀ L m s Q E B F X (newsSwap N) T hk hd hu ?_
  rintro v news' h' tk' F' N' ⟨e, o', kvs', vs', ns', nn', a1, a2, a3, rfl⟩
  exact hret v _ h' tk' F' (newsSwap N') ⟨e, o', kvs', vs', ns', nn', a1, a2, a3, rfl⟩

-- part: InV
theorem plain_contains_iter : plainId "proto.contains_iter" = true := by decide +kernel
theorem entry_contains_iter : entryFor table "proto.contains_iter" = some Builtin.«proto.contains_iter» := entryFor_of_tree (by kernel_rfl)
theorem lookup_values_contains : typeLookup (.type "dict_values") "__contains__" = pure none := by rw [typeLookup_type, builtinLookup_eq_fast]; kernel_rfl

section
variable {prog : Program} {w : World} {A : Around} {E : Value → Shared → Prop} {s : Shared}
theorem eqBool_none_none {Q : Bool → Shared → Prop} (h : Q true s) : wpAny (model prog w) A (eqBool .none .none) Q E s := by
  unfold eqBool
  refine wpAny_holding ?_
  show wpAny _ _ (if (Value.none == Value.none) = true then _ else _) Q E s
  rw [if_pos (by decide)]
  exact wpAny_bind (wpAny_rule (wpAny_pure h))
theorem eqBool_int_none {a : Int} {t : Tok} {Q : Bool → Shared → Prop} (h : Q false s) : wpAny (model prog w) A (eqBool (.int a t) .none) Q E s := by
  unfold eqBool
  refine wpAny_holding ?_
  show wpAny _ _ (if (Value.int a t == Value.none) = true then _ else _) Q E s
  rw [if_neg (show ¬ ((Value.int a t == Value.none) = true) from Bool.false_ne_true)]
  exact wpAny_bind (EqNone.eq_int_none (wpAny_truthy_bool h))
end

section
variable {prog : Program} {w : World} {A : Around} {R : Result → Shared → Prop} {I : Addr} {fp wr : List Addr} {n : Nat} {P : Nat → Value → Prop} {St : Nat → Heap → Prop}
/-- «x in it», the iterator walked -/
theorem contains_loop (W : Walks prog w A.in1 I fp wr n P St) (x : Value) (tr : Nat → Bool)
    (heq : ∀ i v (s : Shared) (Q : Bool → Shared → Prop) (E : Value → Shared → Prop), P i v → Q (tr i) s → wpAny (model prog w) A.in1 (eqBool v x) Q E s) :
    ∀ (k i : Nat) (s : Shared), n - i = k → i ≤ n → St i s.heap →
    (∀ h' tk, (∀ b o, b ∉ wr → s.heap.get? b = some o → h'.get? b = some o) → R (.ok (.ret (.bool (((List.range n).drop i).any tr)))) { s with heap := h', toks := tk }) →
    codeAny (model prog w) A (.builtin "proto.contains_iter" ⟨[.ref I, x], []⟩) R s := by
  intro k
  induction k with
  | zero =>
    intro i s hk hi hst hR
    have hin : i = n := by omega
    subst hin
    refine codeAny_builtin entry_contains_iter ?_
    rw [Around.under_plainId plain_contains_iter _]
    show wpAny _ A.in1 (pyNext (.ref I) >>= _) _ _ s
    refine wpAny_bind (W.done s _ _ hst fun h' tk hk' => ?_)
    refine wpAny_bind (wpAny_rule (wpAny_pure ?_))
    have := hR h' tk hk'
    rw [List.drop_of_length_le (by simp)] at this
    exact this
  | succ k ih =>
    intro i s hk hi hst hR
    have hlt : i < n := by omega
    have hd : (List.range n).drop i = i :: (List.range n).drop (i + 1) := by
      rw [List.drop_eq_getElem_cons (by simpa using hlt)]; simp
    refine codeAny_builtin entry_contains_iter ?_
    rw [Around.under_plainId plain_contains_iter _]
    show wpAny _ A.in1 (pyNext (.ref I) >>= _) _ _ s
    refine wpAny_bind (W.item i s _ _ hlt hst fun v h' tk hP hst' hk' => ?_)
    refine wpAny_bind (heq i v _ _ _ hP ?_)
    cases hb : tr i with
    | false =>
      simp only [Bool.false_eq_true, if_false]
      refine wpAny_pure ⟨plainId_quiet plain_contains_iter _, ih (i + 1) _ (by omega) hlt hst' fun h'' tk'' hk'' => ?_⟩
      have := hR h'' tk'' fun b o hbw e => hk'' b o hbw (hk' b o hbw e)
      rw [hd, List.any_cons, hb, Bool.false_or] at this
      exact this
    | true =>
      simp only [if_true]
      refine wpAny_bind (wpAny_rule (wpAny_pure ?_))
      have := hR h' tk hk'
      rw [hd, List.any_cons, hb, Bool.true_or] at this
      exact this
end

def isNone : Value → Bool
  | .none => true
  | _ => false
theorem any_range {α : Type} (l : List α) (p : α → Bool) (tr : Nat → Bool) (h : ∀ i x, l[i]? = some x → tr i = p x) : (List.range l.length).any tr = l.any p := by
  rw [Bool.eq_iff_iff]
  simp only [List.any_eq_true, List.mem_range]
  constructor
  · rintro ⟨i, hi, ht⟩
    exact ⟨l[i], List.getElem_mem _, by rw [← h i l[i] (by simp [hi])]; exact ht⟩
  · rintro ⟨x, hx, hp⟩
    obtain ⟨i, hi, rfl⟩ := List.mem_iff_getElem.mp hx
    exact ⟨i, hi, by rw [h i l[i] (by simp [hi])]; exact hp⟩

section
variable {prog : Program} {w : World} {K : Type} [DecidableEq K] {knd : KeyKind prog w K} {A : Around} {E : Value → Shared → Prop} {s : Shared}
/-- «None in d.values()» -/
theorem none_in_values {v d : Addr} {kvs : List (K × Value)} {ep : Nat} {Q : Value → Shared → Prop} (hh : A.handled = none) (hv : s.heap.IsValuesView v d) (hm : s.heap.DictAt knd d kvs ep)
    (hval : ∀ p ∈ kvs, p.2 = .none ∨ ∃ i t, p.2 = .int i t)
    (h : ∀ h' tk, (∀ b o, s.heap.get? b = some o → h'.get? b = some o) → Q (.bool (kvs.any fun p => isNone p.2)) { s with heap := h', toks := tk }) :
    wpAny (model prog w) A (compareOp .In .none (.ref v)) Q E s := by
  show wpAny _ _ (do return .bool (← contains (.ref v) .none)) Q E s
  refine wpAny_bind ?_
  unfold contains
  refine wpAny_holding ?_
  rw [stdlibNamesSay?_ref]
  refine wpAny_bind (wpAny_specialOf hv.typeIs lookup_values_contains ?_)
  show wpAny _ _ (if ((none : Option Value) == some .none) = true then _ else _) _ _ s
  rw [if_neg (by decide)]
  show wpAny _ _ (callSpecialUnlessNone? (.ref v) "__contains__" [.none] _ >>= _) _ _ s
  refine wpAny_bind ?_
  unfold callSpecialUnlessNone?
  refine wpAny_bind (wpAny_specialOf hv.typeIs lookup_values_contains (wpAny_pure ?_))
  refine wpAny_bind (wpAny_rule ?_)
  refine wpAny_bind (wpAny_tryCatch (wpAny_pyIter_values hv hm ?_))
  refine wpAny_bind (wpAny_runValue ?_)
  have hlt : d < s.heap.objs.size := by obtain ⟨o, es, ho, _⟩ := hm; exact Heap.lt_size ho
  have W := Walks.dictValues (prog := prog) (w := w) (knd := knd) (A := A.in1) hh s.heap.objs.size d (Nat.ne_of_lt hlt) kvs ep
  refine contains_loop W .none (fun i => match kvs[i]? with | some p => isNone p.2 | none => false) ?_ kvs.length 0 _ rfl (Nat.zero_le _) ⟨⟨_, Heap.get?_push_size _ rfl, rfl, rfl⟩, hm.at' fun o e => Heap.get?_push_of_some _ e⟩ ?_
  · rintro i x s' Q' E' ⟨k, hk⟩ hQ
    rw [hk] at hQ
    rcases hval _ (List.mem_of_getElem? hk) with e | ⟨a, t, e⟩
    · change x = .none at e
      subst e
      exact eqBool_none_none hQ
    · change x = .int a t at e
      subst e
      exact eqBool_int_none hQ
  · intro h' tk hk
    refine wpAny_pure (wpAny_pure ?_)
    have hany : (List.range kvs.length).any (fun i => match kvs[i]? with | some p => isNone p.2 | none => false) = kvs.any fun p => isNone p.2 :=
      any_range kvs _ _ fun i x hx => by rw [hx]
    rw [List.drop_zero, hany]
    refine h h' tk fun b o e => hk b o (fun hb => ?_) (Heap.get?_push_of_some _ e)
    rw [List.mem_singleton.mp hb] at e
    exact absurd (Heap.lt_size e) (Nat.lt_irrefl _)
end

-- part: Flt1
theorem owner_filter : Manifest.owners.lookup (String.ofList ['r', 'e', 't', 'l', 'i', 'f'].reverse) = some Manifest.sig_filter := by kernel_rfl
theorem slot_filter_init : Slot "filter" "__init__" "object.__init__" :=
  .of (owner := "object") (n := "__init__") (by rw [typeLookup_type, builtinLookup_eq_fast]; kernel_rfl) (by decide +kernel) (by decide +kernel) (by decide +kernel)
    (by first | exact .inl (by decide +kernel) | exact .inr (by decide +kernel)) (by rw [isSubtype_type]; kernel_rfl)
theorem slot_filter_iter : Slot "filter" "__iter__" "filter.__iter__" :=
  .of (owner := "filter") (n := "__iter__") (by rw [typeLookup_type, builtinLookup_eq_fast]; kernel_rfl) (by decide +kernel) (by decide +kernel) (by decide +kernel)
    (by first | exact .inl (by decide +kernel) | exact .inr (by decide +kernel)) (by rw [isSubtype_type]; kernel_rfl)
theorem args_filter_iter_1 (a : Value) : argsOk "filter.__iter__" ⟨[a], []⟩ := by
  unfold argsOk; rw [signature?_of (id := "filter.__iter__") (n := ['_', '_', 'r', 'e', 't', 'i', '_', '_']) (o := ['r', 'e', 't', 'l', 'i', 'f']) (by kernel_rfl) owner_filter]; kernel_rfl
theorem slot_filter_next : Slot "filter" "__next__" "filter.__next__" :=
  .of (owner := "filter") (n := "__next__") (by rw [typeLookup_type, builtinLookup_eq_fast]; kernel_rfl) (by decide +kernel) (by decide +kernel) (by decide +kernel)
    (by first | exact .inl (by decide +kernel) | exact .inr (by decide +kernel)) (by rw [isSubtype_type]; kernel_rfl)
theorem entry_filter_next : entryFor table "filter.__next__" = some Builtin.«filter.__next__» := entryFor_of_tree (by kernel_rfl)
theorem args_filter_next_1 (a : Value) : argsOk "filter.__next__" ⟨[a], []⟩ := by
  unfold argsOk; rw [signature?_of (id := "filter.__next__") (n := ['_', '_', 't', 'x', 'e', 'n', '_', '_']) (o := ['r', 'e', 't', 'l', 'i', 'f']) (by kernel_rfl) owner_filter]; kernel_rfl
theorem entry_filter_iter : entryFor table "filter.__iter__" = some Builtin.«dict_keyiterator.__iter__» :=
  entryFor_alias (id' := "dict_keyiterator.__iter__") (by rw [fastTable_eq_tree]; kernel_rfl) rfl (by decide +kernel) (by rw [fastTable_eq_tree]; kernel_rfl)
theorem mro_filter : mroOf (.type "filter") = pure [.type "filter", .type "object"] := by rw [mroOf_type]; kernel_rfl
theorem lookup_filter_new : typeLookup (.type "filter") "__new__" = pure (some (.builtin "filter.__new__")) := by rw [typeLookup_type, builtinLookup_eq_fast]; kernel_rfl
theorem called_filter : TypeCalled "filter" "filter.__new__" "object.__init__" :=
  ⟨by decide +kernel, by decide +kernel, ⟨_, _, mro_filter⟩, madeBy_type mro_filter lookup_filter_new (by decide +kernel), by decide +kernel, by rw [isSubtype_type]; kernel_rfl, slot_filter_init⟩
theorem typeCall_filter_2 (a b : Value) : checkTypeCall "filter" ⟨[a, b], []⟩ = pure () := by kernel_rfl
theorem newCall_filter_2 (a b : Value) : checkBuiltinCall "filter.__new__" ⟨[.type "filter", a, b], []⟩ = pure () := by
  unfold checkBuiltinCall
  rw [signature?_of (id := "filter.__new__") (n := ['_', '_', 'w', 'e', 'n', '_', '_']) (o := ['r', 'e', 't', 'l', 'i', 'f']) (by kernel_rfl) owner_filter]
  kernel_rfl
theorem entry_filter_new : entryFor table "filter.__new__" = some Builtin.«filter.__new__» := entryFor_of_tree (by kernel_rfl)
theorem plain_filter_next : plainId "filter.__next__" = true := by decide +kernel
theorem sub_filter : isSubtype (.type "filter") (.type "filter") = pure true := by rw [isSubtype_type]; kernel_rfl

abbrev IsFilter (h : Heap) (f I : Addr) : Prop := h.get? f = some { cls := .type "filter", dict := none, data := .fields #[.none, .ref I], slots := #[] }

section
variable {prog : Program} {w : World} {K : Type} [DecidableEq K] {knd : KeyKind prog w K} {A : Around} {E : Value → Shared → Prop} {s : Shared}

theorem vnext_item {it d : Addr} {i ep : Nat} {kvs : List (K × Value)} {k : K} {v : Value} {Q : Value → Shared → Prop} (hit : s.heap.IsValIter it d i kvs.length ep)
    (hm : s.heap.DictAt knd d kvs ep) (hx : kvs[i]? = some (k, v))
    (hQ : ∀ h', h'.IsValIter it d (i + 1) kvs.length ep → Heap.SameBut it s.heap h' → Q v { s with heap := h' }) :
    wpAny (model prog w) A (call (.builtin "dict_valueiterator.__next__") [.ref it]) Q E s := by
  obtain ⟨o, ho, hc, hd⟩ := id hit
  obtain ⟨od, es, hod, hcd, hdd, hk, hp, hn⟩ := id hm
  refine wpAny_call_entry F.slot_dict_valueiterator_next hit.typeIs F.entry_dict_valueiterator_next ?_ (F.args_dict_valueiterator_next_1 _)
  refine wpAny_bind (wpAny_pure ?_)
  refine wpAny_bind ?_
  refine wpAny_bind ?_
  refine wpAny_bind (wpAny_typeNameOfWhole_valiter hit.typeIs (wpAny_pure ?_))
  refine wpAny_bind (wpAny_fieldsOf ho hd ?_)
  have hown : Builtin.Dict_items.ownsTuple "dict_valueiterator" = false := by decide
  simp only [hown, Bool.false_eq_true, if_false]
  show wpAny _ _ (if (Value.ref d == Value.none) = true then _ else _) _ _ s
  rw [if_neg (show ¬ ((Value.ref d == Value.none) = true) from Bool.false_ne_true)]
  refine wpAny_bind (wpAny_pure ?_)
  refine wpAny_bind (wpAny_dictEntries hod hdd ?_)
  have hsz : es.size = kvs.length := by rw [← hp.length]; simp
  rw [if_neg (by rw [hsz]; simp)]
  refine wpAny_bind (wpAny_pure ?_)
  refine wpAny_bind (wpAny_dictEpoch hod hdd ?_)
  rw [if_neg (by simp)]
  refine wpAny_pure ?_
  have hlt : i < kvs.length := (List.getElem?_eq_some_iff.mp hx).1
  have hlt' : i < es.size := by rw [hsz]; exact hlt
  have hval : es[i].val = v := (hp.get? (e := es[i]) (by simp [hlt']) hx).2
  simp only [show ¬ ((i : Int) < 0) from by omega, if_false, Int.toNat_natCast, Array.getElem?_eq_getElem hlt']
  refine wpAny_bind ?_
  refine wpAny_bind (wpAny_typeNameOfWhole_valiter hit.typeIs (wpAny_pure ?_))
  refine wpAny_bind (wpAny_isOneOf_valiter hit.typeIs ?_)
  show wpAny _ _ (setField (.ref it) 1 (rawInt ((i : Int) + 1)) >>= _) _ _ s
  refine wpAny_bind (wpAny_setField ho hd (by simp) ?_)
  have hit' : (s.heap.update it (Obj.mapFields (·.setIfInBounds 1 (rawInt ((i : Int) + 1))))).IsValIter it d (i + 1) kvs.length ep :=
    ⟨_, Heap.get?_update_self _ ho (Obj.isFreed_of_fields (Obj.data_mapFields hd _)), (Obj.cls_mapFields ..).trans hc, by rw [Obj.data_mapFields hd]; simp [rawInt]⟩
  refine wpAny_bind (wpAny_holding ?_)
  refine wpAny_bind (wpAny_isOneOf_valiter (s := { s with heap := s.heap.update it (Obj.mapFields (·.setIfInBounds 1 (rawInt ((i : Int) + 1)))) }) hit'.typeIs ?_)
  refine wpAny_bind (wpAny_isOneOf_valiter (s := { s with heap := s.heap.update it (Obj.mapFields (·.setIfInBounds 1 (rawInt ((i : Int) + 1)))) }) hit'.typeIs ?_)
  show wpAny _ _ (pure es[i].val) _ _ _
  exact wpAny_pure (wpAny_pure ⟨_, rfl, hval ▸ hQ _ hit' (Heap.SameBut.update ..)⟩)

theorem vnext_end {it d : Addr} {i ep : Nat} {kvs : List (K × Value)} {Q : Value → Shared → Prop} (hh : A.handled = none) (hit : s.heap.IsValIter it d i kvs.length ep)
    (hm : s.heap.DictAt knd d kvs ep) (hx : kvs[i]? = none)
    (hE : ∀ h' e, Heap.ExtBut it s.heap h' → (∃ o, h'.get? e = some o ∧ o.cls = .type "StopIteration") → E (.ref e) { s with heap := h' }) :
    wpAny (model prog w) A (call (.builtin "dict_valueiterator.__next__") [.ref it]) Q E s := by
  obtain ⟨o, ho, hc, hd⟩ := id hit
  obtain ⟨od, es, hod, hcd, hdd, hk, hp, hn⟩ := id hm
  refine wpAny_call_entry F.slot_dict_valueiterator_next hit.typeIs F.entry_dict_valueiterator_next ?_ (F.args_dict_valueiterator_next_1 _)
  refine wpAny_bind (wpAny_pure ?_)
  refine wpAny_bind ?_
  refine wpAny_bind ?_
  refine wpAny_bind (wpAny_typeNameOfWhole_valiter hit.typeIs (wpAny_pure ?_))
  refine wpAny_bind (wpAny_fieldsOf ho hd ?_)
  have hown : Builtin.Dict_items.ownsTuple "dict_valueiterator" = false := by decide
  simp only [hown, Bool.false_eq_true, if_false]
  show wpAny _ _ (if (Value.ref d == Value.none) = true then _ else _) _ _ s
  rw [if_neg (show ¬ ((Value.ref d == Value.none) = true) from Bool.false_ne_true)]
  refine wpAny_bind (wpAny_pure ?_)
  refine wpAny_bind (wpAny_dictEntries hod hdd ?_)
  have hsz : es.size = kvs.length := by rw [← hp.length]; simp
  rw [if_neg (by rw [hsz]; simp)]
  refine wpAny_bind (wpAny_pure ?_)
  refine wpAny_bind (wpAny_dictEpoch hod hdd ?_)
  rw [if_neg (by simp)]
  refine wpAny_pure ?_
  have hge : es.size ≤ i := by rw [hsz]; simpa using hx
  simp only [show ¬ ((i : Int) < 0) from by omega, if_false, Int.toNat_natCast, Array.getElem?_eq_none hge]
  refine wpAny_bind ?_
  refine wpAny_bind (wpAny_typeNameOfWhole_valiter hit.typeIs (wpAny_pure ?_))
  show wpAny _ _ (setField (.ref it) 0 .none >>= _) _ _ s
  refine wpAny_bind (wpAny_setField ho hd (by simp) ?_)
  show wpAny _ _ (newExc (.type "StopIteration") [] >>= _) _ _ _
  refine wpAny_bind ?_
  simp only [newExc, newTuple]
  refine wpAny_bind (wpAny_newObj_type ?_ (by size_fits))
  refine wpAny_bind (m := firstArgMember _ _) (wpAny_of_eq (a := Value.none) (by first | rfl | (simp only [firstArgMember]; rfl)) ?_)
  refine wpAny_newObj_type ?_ (by size_fits)
  simp only [raiseNew]
  refine wpAny_bind (wpAny_handled ?_)
  rw [show A.in1.handled = none from hh]
  refine wpAny_bind (wpAny_pure (wpAny_throw ?_))
  exact hE _ _ (((Heap.SameBut.update ..).extBut.push _).push _) ⟨_, Heap.get?_push_size _ rfl, rfl⟩

theorem filter_new_in {v d : Addr} {kvs : List (K × Value)} {ep : Nat} :
    MeetsIn prog w (Builtin.«filter.__new__» ⟨[.type "filter", .none, .ref v], []⟩) (fun _ R s => s.heap.IsValuesView v d ∧ s.heap.DictAt knd d kvs ep ∧
      R (.ok (.ret (.ref (s.heap.push { cls := .type "dict_valueiterator", data := .fields #[.ref d, .int 0 0, .int kvs.length 0, .int ep 0] }).objs.size))) { s with heap := (s.heap.push { cls := .type "dict_valueiterator", data := .fields #[.ref d, .int 0 0, .int kvs.length 0, .int ep 0] }).push { cls := .type "filter", data := .fields #[.none, .ref s.heap.objs.size] } }) :=
  .of_wp fun A R s h => by
    obtain ⟨hp, g, dr, tk, os⟩ := s; obtain ⟨hv, hm, h⟩ := h
    have hsub := sub_filter
    wp_walk using (wpAny_pyIter_values (s := ⟨hp, g, dr, tk, os⟩) hv hm)
    exact ⟨_, rfl, h⟩
end

-- part: Flt2
theorem posL_cons (p : Int × Value) (kvs : List (Int × Value)) : posL (p :: kvs) = pos1 p.2 ++ posL kvs := by simp [posL]

section
variable {prog : Program} {w : World} {knd : KeyKind prog w Int} {A : Around} {E : Value → Shared → Prop} {s : Shared}

theorem call_filter {v d : Addr} {kvs : List (Int × Value)} {ep : Nat} {Q : Value → Shared → Prop} (hv : s.heap.IsValuesView v d) (hm : s.heap.DictAt knd d kvs ep)
    (h : ∀ h', IsFilter h' (s.heap.objs.size + 1) s.heap.objs.size → h'.IsValIter s.heap.objs.size d 0 kvs.length ep → h'.DictAt knd d kvs ep →
      (∀ b o, s.heap.get? b = some o → h'.get? b = some o) → Q (.ref (s.heap.objs.size + 1)) { s with heap := h' }) :
    wpAny (model prog w) A (call (.type "filter") [.none, .ref v]) Q E s := by
  refine callType_newIn called_filter (by decide) (typeCall_filter_2 _ _) (newCall_filter_2 _ _) (fun obj => F.args_object_init_3 obj _ _) entry_filter_new
    (filter_new_in (knd := knd)) ⟨hv, hm, ?_⟩
  have hz : (s.heap.push { cls := .type "dict_valueiterator", data := .fields #[.ref d, .int 0 0, .int kvs.length 0, .int ep 0] }).objs.size = s.heap.objs.size + 1 := Heap.size_push ..
  show _ ∧ _
  rw [hz]
  have he : IsFilter ((s.heap.push { cls := .type "dict_valueiterator", data := .fields #[.ref d, .int 0 0, .int kvs.length 0, .int ep 0] }).push
      { cls := .type "filter", data := .fields #[.none, .ref s.heap.objs.size] }) (s.heap.objs.size + 1) s.heap.objs.size := by
    have := Heap.get?_push_size (s.heap.push { cls := .type "dict_valueiterator", data := .fields #[.ref d, .int 0 0, .int kvs.length 0, .int ep 0] })
      (o := { cls := .type "filter", data := .fields #[.none, .ref s.heap.objs.size] }) rfl
    rw [hz] at this; exact this
  exact ⟨⟨_, he, rfl⟩, h _ he ⟨_, Heap.get?_push_of_some _ (Heap.get?_push_size _ rfl), rfl, rfl⟩ (hm.at' fun o e => Heap.get?_push_of_some _ (Heap.get?_push_of_some _ e))
    fun b o x => Heap.get?_push_of_some _ (Heap.get?_push_of_some _ x)⟩
end

section
variable {prog : Program} {w : World} {knd : KeyKind prog w Int} {A : Around} {R : Result → Shared → Prop}

/-- filter.__next__ over a dict's values -/
theorem filter_code {f I d : Addr} {kvs : List (Int × Value)} {ep : Nat} (hh : A.handled = none) (hfI : f ≠ I) (hdI : d ≠ I) (hok : ∀ p ∈ kvs, ValOk p.2) :
    ∀ (k i : Nat) (s : Shared), kvs.length - i = k → IsFilter s.heap f I → s.heap.IsValIter I d i kvs.length ep → s.heap.DictAt knd d kvs ep →
    (∀ x rest, posL (kvs.drop i) = x :: rest → ∀ t h' i', IsFilter h' f I → h'.IsValIter I d i' kvs.length ep → h'.DictAt knd d kvs ep → posL (kvs.drop i') = rest →
      (∀ b o, b ≠ I → s.heap.get? b = some o → h'.get? b = some o) → R (.ok (.ret (.int x t))) { s with heap := h' }) →
    (posL (kvs.drop i) = [] → ∀ h' e, (∀ b o, b ≠ I → s.heap.get? b = some o → h'.get? b = some o) → (∃ o, h'.get? e = some o ∧ o.cls = .type "StopIteration") → R (.error (.ref e)) { s with heap := h' }) →
    codeAny (model prog w) A (.builtin "filter.__next__" ⟨[.ref f], []⟩) R s := by
  intro k
  induction k with
  | zero =>
    intro i s hk hf hit hm _ hend
    have hge : kvs.length ≤ i := by omega
    refine codeAny_builtin entry_filter_next ?_
    rw [Around.under_plainId plain_filter_next _]
    unfold Builtin.«filter.__next__»
    refine wpAny_bind (wpAny_pure ?_)
    refine wpAny_bind (wpAny_field hf rfl (x := .none) rfl ?_)
    refine wpAny_bind (wpAny_field hf rfl (x := .ref I) rfl ?_)
    refine wpAny_bind (wpAny_callSpecial?_slot (name := Str.ofString "__next__") hit.typeIs F.slot_dict_valueiterator_next ?_)
    refine vnext_end (A := A.in1) hh hit hm (List.getElem?_eq_none hge) fun h' e he hex => ?_
    exact hend (by rw [List.drop_of_length_le hge]; rfl) h' e (fun b o hb x => he b o hb x) hex
  | succ k ih =>
    intro i s hk hf hit hm hitem hend
    have hlt : i < kvs.length := by omega
    have hx : kvs[i]? = some (kvs[i].1, kvs[i].2) := by simp [hlt]
    have hd : kvs.drop i = kvs[i] :: kvs.drop (i + 1) := List.drop_eq_getElem_cons hlt
    rw [hd, posL_cons] at hitem hend
    refine codeAny_builtin entry_filter_next ?_
    rw [Around.under_plainId plain_filter_next _]
    unfold Builtin.«filter.__next__»
    refine wpAny_bind (wpAny_pure ?_)
    refine wpAny_bind (wpAny_field hf rfl (x := .none) rfl ?_)
    refine wpAny_bind (wpAny_field hf rfl (x := .ref I) rfl ?_)
    refine wpAny_bind (wpAny_callSpecial?_slot (name := Str.ofString "__next__") hit.typeIs F.slot_dict_valueiterator_next ?_)
    refine vnext_item (A := A.in1) hit hm hx fun h' hit' hs' => ?_
    have hf' : IsFilter h' f I := hs'.extBut _ _ hfI hf
    have hm' : h'.DictAt knd d kvs ep := hm.extBut hs'.extBut hdI
    have hkeep : ∀ b o, b ≠ I → s.heap.get? b = some o → h'.get? b = some o := fun b o hb e => hs'.extBut b o hb e
    have again : ∀ s' : Shared, s' = { s with heap := h' } → pos1 kvs[i].2 = [] →
        codeAny (model prog w) A (.builtin "filter.__next__" ⟨[.ref f], []⟩) R s' := by
      rintro s' rfl he
      rw [he, List.nil_append] at hitem hend
      refine ih (i + 1) _ (by omega) hf' hit' hm' (fun x rest hx t h'' i' a1 a2 a3 a4 a5 => ?_) fun hn h'' e a1 a2 => ?_
      · exact hitem x rest hx t h'' i' a1 a2 a3 a4 fun b o hb e => a5 b o hb (hkeep b o hb e)
      · exact hend hn h'' e (fun b o hb e => a1 b o hb (hkeep b o hb e)) a2
    rcases hok kvs[i] (List.getElem_mem _) with e | ⟨a, t, e, h0, _⟩
    · have e' := e
      rw [e]
      refine wpAny_bind (wpAny_holding (wpAny_bind (wpAny_rule (truthy_none ?_))))
      show wpAny _ _ (if false = true then _ else _) _ _ _
      rw [if_neg Bool.false_ne_true]
      exact wpAny_pure ⟨plainId_quiet plain_filter_next _, again _ rfl (by rw [e']; rfl)⟩
    · have e' := e
      rw [e]
      refine wpAny_bind (wpAny_holding (wpAny_bind (wpAny_rule (PyProof.Rows.truthy_int ?_))))
      by_cases hz : a = 0
      · subst hz
        show wpAny _ _ (if ((0 : Int) != 0) = true then _ else _) _ _ _
        rw [if_neg (by decide)]
        exact wpAny_pure ⟨plainId_quiet plain_filter_next _, again _ rfl (by rw [e']; rfl)⟩
      · show wpAny _ _ (if (a != 0) = true then _ else _) _ _ _
        rw [if_pos (by simpa using hz)]
        have hp : pos1 kvs[i].2 = [a] := by rw [e']; simp [pos1]; omega
        rw [hp] at hitem
        exact wpAny_pure (hitem a _ rfl t h' (i + 1) hf' hit' hm' rfl hkeep)
end

section
variable {prog : Program} {w : World} {knd : KeyKind prog w Int} {A : Around}
theorem Walks.filterVals (hh : A.handled = none) (f I d : Addr) (hfI : f ≠ I) (hdI : d ≠ I) (kvs : List (Int × Value)) (ep : Nat) (hok : ∀ p ∈ kvs, ValOk p.2) :
    Walks prog w A f [f, I, d] [I] (posL kvs).length (fun j v => ∃ x t, (posL kvs)[j]? = some x ∧ v = .int x t)
      (fun j h => IsFilter h f I ∧ h.DictAt knd d kvs ep ∧ ∃ i, h.IsValIter I d i kvs.length ep ∧ posL (kvs.drop i) = (posL kvs).drop j) where
  sub := fun b hb => by simp at hb; simp [hb]
  frame := fun j h h' st hk => by
    obtain ⟨h1, h2, i, h3, h4⟩ := st
    exact ⟨hk f (by simp) _ h1, h2.at' fun o e => hk d (by simp) o e, i, h3.at fun o e => hk I (by simp) o e, h4⟩
  item := fun j s Q E hj st hQ => by
    obtain ⟨h1, h2, i, h3, h4⟩ := st
    have hT : s.TypeIs (.ref f) "filter" := ⟨_, h1, rfl⟩
    have hd : (posL kvs).drop j = (posL kvs)[j] :: (posL kvs).drop (j + 1) := List.drop_eq_getElem_cons hj
    unfold pyNext
    refine wpAny_bind (wpAny_attempt (wpAny_callSpecial?_slot (name := Str.ofString "__next__") hT slot_filter_next
      (wpAny_call (codeAny_call_builtin_code (plainId_quiet plain_filter_next _) (slot_filter_next.check _ _ _ _ _ _ _ _ hT (args_filter_next_1 _) ?_)))))
    refine filter_code (A := A) hh hfI hdI hok _ i s rfl h1 h3 h2 (fun x rest hx t h' i' a1 a2 a3 a4 a5 => ?_) fun hn => ?_
    · rw [h4, hd] at hx
      injection hx with e1 e2
      refine wpAny_pure (hQ _ h' s.toks ⟨x, t, by rw [← e1]; simp [hj], rfl⟩ ⟨a1, a3, i', a2, by rw [a4, e2]⟩ fun b o hb e => a5 b o (fun h => hb (by simp [h])) e)
    · rw [h4, hd] at hn; cases hn
  done := fun s Q E st hQ => by
    obtain ⟨h1, h2, i, h3, h4⟩ := st
    have hT : s.TypeIs (.ref f) "filter" := ⟨_, h1, rfl⟩
    rw [List.drop_length] at h4
    unfold pyNext
    refine wpAny_bind (wpAny_attempt (wpAny_callSpecial?_slot (name := Str.ofString "__next__") hT slot_filter_next
      (wpAny_call (codeAny_call_builtin_code (plainId_quiet plain_filter_next _) (slot_filter_next.check _ _ _ _ _ _ _ _ hT (args_filter_next_1 _) ?_)))))
    refine filter_code (A := A) hh hfI hdI hok _ i s rfl h1 h3 h2 (fun x rest hx => ?_) fun _ h' e a1 a2 => ?_
    · rw [h4] at hx; cases hx
    · refine wpAny_bind (wpAny_isInstance (T := "StopIteration") (b := true) a2 isSubtype_stop ?_)
      exact wpAny_pure (hQ _ s.toks fun b o hb e => a1 b o (fun h => hb (by simp [h])) e)
  self := fun _ s Q E st hQ => by
    have hT : s.TypeIs (.ref f) "filter" := ⟨_, st.1, rfl⟩
    refine wpAny_pyIter_slot hT slot_filter_iter (wpAny_call_entry slot_filter_iter hT entry_filter_iter ?_ (args_filter_iter_1 _))
    show wpAny _ _ (ret (.ref f)) _ _ s
    exact wpAny_pure ⟨_, rfl, "filter", _, hT, slot_filter_next.lookup, hQ⟩
end

-- part: Flt3
theorem args_max_default (a v : Value) : argsOk "max" ⟨[a], [(Str.ofString "default", v)]⟩ := by unfold argsOk; kernel_rfl

/-- the greatest of a list, -1 where it is empty -/
def MaxOr (xs : List Int) (b : Int) : Prop := (xs = [] ∧ b = -1) ∨ (b ∈ xs ∧ ∀ x ∈ xs, x ≤ b)

section
variable {prog : Program} {w : World} {A : Around} {R : Result → Shared → Prop} {I : Addr} {fp wr : List Addr} {St : Nat → Heap → Prop} {xs : List Int}

theorem max_loop (W : Walks prog w A.in1 I fp wr xs.length (fun j v => ∃ x t, xs[j]? = some x ∧ v = .int x t) St) (d : Value) (S : Addr) (hSf : S ∉ fp) :
    ∀ (k j : Nat) (s : Shared) (b : Int) (tb : Tok) (c : Nat), xs.length - (j + 1) = k → j + 1 ≤ xs.length → St (j + 1) s.heap → b ∈ xs.take (j + 1) → (∀ x ∈ xs.take (j + 1), x ≤ b) →
    s.heap.get? S = some { cls := .type "list", dict := none, data := .seq #[.int b tb, .int b tb] c, slots := #[] } →
    (∀ b' t h' tk, MaxOr xs b' → (∀ b o, b ∉ wr → b ≠ S → s.heap.get? b = some o → h'.get? b = some o) → R (.ok (.ret (.int b' t))) { s with heap := h', toks := tk }) →
    codeAny (model prog w) A (.builtin "max.loop" ⟨[.ref I, .none, .ref S], [(Str.ofString "default", d)]⟩) R s := by
  have hSw : S ∉ wr := fun h => hSf (W.sub _ h)
  have hname : (toString "max" ++ toString ".loop" : String) = "max.loop" := by decide
  intro k
  induction k with
  | zero =>
    intro j s b tb c hk hj hst hb1 hb2 hS hR
    have hin : j + 1 = xs.length := by omega
    refine codeAny_builtin F.entry_max_loop ?_
    rw [Around.under_plainId F.plain_max_loop _]
    show wpAny _ A.in1 (seqItems? (.ref S) >>= _) _ _ s
    refine wpAny_bind (wpAny_seqItems hS rfl ?_)
    show wpAny _ A.in1 (tryCatch (pyNext (.ref I)) _ >>= _) _ _ s
    refine wpAny_bind (wpAny_tryCatch (W.done s _ _ (hin ▸ hst) fun h' tk hk' => ?_))
    have hS' := hk' S _ hSw hS
    show wpAny _ A.in1 (updateSeq S (fun _ => #[]) >>= _) _ _ _
    refine wpAny_bind ?_
    refine wpAny_updateSeq hS' rfl (wpAny_bind (wpAny_letGo (wpAny_pure ?_)))
    rw [hin, List.take_length] at hb1 hb2
    exact hR b tb _ tk (.inr ⟨hb1, hb2⟩) fun b o hbw hbS e => (Heap.get?_update_other _ _ (Ne.symm hbS)).trans (hk' b o hbw e)
  | succ k ih =>
    intro j s b tb c hk hj hst hb1 hb2 hS hR
    have hlt : j + 1 < xs.length := by omega
    refine codeAny_builtin F.entry_max_loop ?_
    rw [Around.under_plainId F.plain_max_loop _]
    show wpAny _ A.in1 (seqItems? (.ref S) >>= _) _ _ s
    refine wpAny_bind (wpAny_seqItems hS rfl ?_)
    show wpAny _ A.in1 (tryCatch (pyNext (.ref I)) _ >>= _) _ _ s
    refine wpAny_bind (wpAny_tryCatch (W.item (j + 1) s _ _ hlt hst fun v h' tk hP hst' hk' => ?_))
    obtain ⟨x, t, hx, rfl⟩ := hP
    have htk : xs.take (j + 1 + 1) = xs.take (j + 1) ++ [x] := by rw [List.take_add_one, hx]; rfl
    have hS' := hk' S _ hSw hS
    show wpAny _ A.in1 (tryCatch (holding [.int x t, .int x t] (richCompare .Gt (.int x t) (.int b tb) >>= _)) _ >>= _) _ _ _
    refine wpAny_bind (wpAny_tryCatch (wpAny_holding (wpAny_bind (PyProof.Rows.gt_int ?_))))
    refine wpAny_bind (wpAny_holding (wpAny_truthy_bool ?_))
    refine wpAny_bind (wpAny_letGo (wpAny_pure ?_))
    by_cases hb : b < x
    · show wpAny _ _ (if decide (b < x) = true then _ else _) _ _ _
      rw [if_pos (by simpa using hb)]
      refine wpAny_bind ?_
      refine wpAny_updateSeq hS' rfl (wpAny_bind (wpAny_letGo ?_))
      rw [hname]
      refine wpAny_pure ⟨plainId_quiet F.plain_max_loop _, ih (j + 1) _ x t _ (by omega) hlt (W.frame _ _ _ hst' fun b hbf o e => ?_) (by rw [htk]; simp) (fun y hy => ?_) (Heap.get?_update_self _ hS' rfl)
        fun v' t' h'' tk'' hP' hk'' => ?_⟩
      · exact (Heap.get?_update_other _ _ (fun h : S = b => hSf (by rw [h]; exact hbf))).trans e
      · rw [htk] at hy
        rcases List.mem_append.mp hy with hy | hy
        · have := hb2 y hy; omega
        · rw [List.mem_singleton.mp hy]; exact Int.le_refl _
      · exact hR v' t' h'' tk'' hP' fun b o hbw hbS e => hk'' b o hbw hbS ((Heap.get?_update_other _ _ (Ne.symm hbS)).trans (hk' b o hbw e))
    · show wpAny _ _ (if decide (b < x) = true then _ else _) _ _ _
      rw [if_neg (by simpa using hb)]
      refine wpAny_bind (wpAny_letGo ?_)
      rw [hname]
      refine wpAny_pure ⟨plainId_quiet F.plain_max_loop _, ih (j + 1) _ b tb c (by omega) hlt hst' (by rw [htk]; exact List.mem_append_left _ hb1) (fun y hy => ?_) hS' fun v' t' h'' tk'' hP' hk'' => ?_⟩
      · rw [htk] at hy
        rcases List.mem_append.mp hy with hy | hy
        · exact hb2 y hy
        · rw [List.mem_singleton.mp hy]; omega
      · exact hR v' t' h'' tk'' hP' fun b o hbw hbS e => hk'' b o hbw hbS (hk' b o hbw e)

theorem max_loop_first (W : Walks prog w A.in1 I fp wr xs.length (fun j v => ∃ x t, xs[j]? = some x ∧ v = .int x t) St) (td : Tok) (S : Addr) (hSf : S ∉ fp) {s : Shared} {c : Nat} (hst : St 0 s.heap)
    (hS : s.heap.get? S = some { cls := .type "list", dict := none, data := .seq #[] c, slots := #[] })
    (hR : ∀ b' t h' tk, MaxOr xs b' → (∀ b o, b ∉ wr → b ≠ S → s.heap.get? b = some o → h'.get? b = some o) → R (.ok (.ret (.int b' t))) { s with heap := h', toks := tk }) :
    codeAny (model prog w) A (.builtin "max.loop" ⟨[.ref I, .none, .ref S], [(Str.ofString "default", .int (-1) td)]⟩) R s := by
  have hSw : S ∉ wr := fun h => hSf (W.sub _ h)
  have hname : (toString "max" ++ toString ".loop" : String) = "max.loop" := by decide
  refine codeAny_builtin F.entry_max_loop ?_
  rw [Around.under_plainId F.plain_max_loop _]
  show wpAny _ A.in1 (seqItems? (.ref S) >>= _) _ _ s
  refine wpAny_bind (wpAny_seqItems hS rfl ?_)
  show wpAny _ A.in1 (tryCatch (pyNext (.ref I)) _ >>= _) _ _ s
  by_cases hn : xs = []
  · subst hn
    refine wpAny_bind (wpAny_tryCatch (W.done s _ _ hst fun h' tk hk' => ?_))
    refine wpAny_bind (wpAny_rule (wpAny_pure ?_))
    exact hR (-1) td h' tk (.inl ⟨rfl, rfl⟩) fun b o hbw _ e => hk' b o hbw e
  · have hn' : 0 < xs.length := List.length_pos_iff.mpr hn
    refine wpAny_bind (wpAny_tryCatch (W.item 0 s _ _ hn' hst fun v h' tk hP hst' hk' => ?_))
    obtain ⟨x, t, hx, rfl⟩ := hP
    have hS' := hk' S _ hSw hS
    show wpAny _ A.in1 (updateSeq S (fun _ => #[.int x t, .int x t]) >>= _) _ _ _
    refine wpAny_bind ?_
    refine wpAny_updateSeq hS' rfl ?_
    rw [hname]
    have htk : xs.take (0 + 1) = [x] := by rw [List.take_add_one, hx]; rfl
    refine wpAny_pure ⟨plainId_quiet F.plain_max_loop _, max_loop W (.int (-1) td) S hSf _ 0 _ x t _ rfl hn' (W.frame _ _ _ hst' fun b hbf o e => ?_) (by rw [htk]; simp) (by rw [htk]; simp) (Heap.get?_update_self _ hS' rfl) fun v' t' h'' tk'' hP' hk'' => ?_⟩
    · exact (Heap.get?_update_other _ _ (fun h : S = b => hSf (by rw [h]; exact hbf))).trans e
    · exact hR v' t' h'' tk'' hP' fun b o hbw hbS e => hk'' b o hbw hbS ((Heap.get?_update_other _ _ (Ne.symm hbS)).trans (hk' b o hbw e))
end

/-- a filter upon a dict's values, made in this call -/
def FltAt {prog : Program} {w : World} (knd : KeyKind prog w Int) (h₀ : Heap) (L : Addr) (news : List (Addr × Obj)) (h : Heap) (f d : Addr) (kvs : List (Int × Value)) : Prop :=
  ∃ I ep, IsFilter h f I ∧ h.IsValIter I d 0 kvs.length ep ∧ h.DictAt knd d kvs ep ∧ f ≠ I ∧ d ≠ I ∧ I ≠ L ∧ h₀.get? I = none ∧ ∀ p ∈ news, p.1 ≠ I

section
variable {prog : Program} {w : World} {knd : KeyKind prog w Int} {A : Around} {E : Value → Shared → Prop} {s : Shared} {h₀ : Heap} {L V d : Addr} {m : Str → Option Value} {news : List (Addr × Obj)} {o : Obj} {kvs : List (Int × Value)}
theorem dictAt_of {h : Heap} (hg : h.get? d = some o) (hd : o.IsDictOf knd kvs) : ∃ ep, h.DictAt knd d kvs ep := by
  obtain ⟨es, ep, h1, h2, h3, h4, h5⟩ := hd
  exact ⟨ep, o, es, hg, h1, h2, h3, h4, h5⟩
theorem filter_K {Q : Value → Shared → Prop} (F : Fr h₀ L s.heap m) (N : News h₀ L s.heap news) (hV : (V, { cls := .type "dict_values", data := .fields #[.ref d] }) ∈ news) (hp : (d, o) ∈ news) (hd : o.IsDictOf knd kvs)
    (h : ∀ h' f, Fr h₀ L h' m → News h₀ L h' news → FltAt knd h₀ L news h' f d kvs → Q (.ref f) { s with heap := h' }) :
    wpAny (model prog w) A (call (.type "filter") [.none, .ref V]) Q E s := by
  obtain ⟨ep, hat⟩ := dictAt_of (N _ hp).1 hd
  refine call_filter ⟨_, (N _ hV).1, rfl, rfl⟩ hat fun h' a1 a2 a3 a4 => ?_
  have hlt : ∀ p ∈ news, p.1 ≠ s.heap.objs.size := fun p hp => Nat.ne_of_lt (Heap.lt_size (N p hp).1)
  obtain ⟨oL, es, ep', hL, hr⟩ := F.ns
  refine h h' _ ⟨⟨oL, es, ep', a4 _ _ hL, hr⟩, fun b x e => a4 b x (F.keep b x e), F.above⟩ (fun p hp => ⟨a4 _ _ (N p hp).1, (N p hp).2⟩) ⟨s.heap.objs.size, ep, a1, a2, a3, Nat.succ_ne_self _, hlt _ hp, fun e => ?_, ?_, hlt⟩
  · exact absurd (Heap.lt_size hL) (by rw [← e]; exact Nat.lt_irrefl _)
  · cases q : h₀.get? s.heap.objs.size with
    | none => rfl
    | some x => exact absurd (Heap.lt_size (F.keep _ _ q)) (Nat.lt_irrefl _)
theorem max_K {f : Addr} {td : Tok} {Q : Value → Shared → Prop} (hh : A.handled = none) (F : Fr h₀ L s.heap m) (N : News h₀ L s.heap news) (hf : FltAt knd h₀ L news s.heap f d kvs) (hok : ∀ p ∈ kvs, ValOk p.2)
    (h : ∀ b t h' tk, Fr h₀ L h' m → News h₀ L h' news → MaxOr (posL kvs) b → Q (.int b t) { s with heap := h', toks := tk }) :
    wpAny (model prog w) A (call (.builtin "max") [.ref f] [(Str.ofString "default", .int (-1) td)]) Q E s := by
  obtain ⟨I, ep, a1, a2, a3, hfI, hdI, hIL, hI0, hIn⟩ := hf
  have hname : (toString "max" ++ toString ".loop" : String) = "max.loop" := by decide
  have W := Walks.filterVals (prog := prog) (w := w) (knd := knd) (A := A.in1) hh f I d hfI hdI kvs ep hok
  refine kmk_tree PySem.F.kind_max PySem.F.plain_max PySem.F.entry_max (args_max_default _ _) ?_
  show wpAny _ A.in1 (Builtin.Builtins.bindParams "max" ["key", "default"] 0 ⟨[], [(Str.ofString "default", .int (-1) td)]⟩ >>= _) _ _ s
  refine wpAny_bind (wpAny_of_eq (show Builtin.Builtins.bindParams "max" ["key", "default"] 0 ⟨[], [(Str.ofString "default", .int (-1) td)]⟩ = pure [none, some (.int (-1) td)] from by first | rfl | kernel_rfl) ?_)
  refine wpAny_bind (wpAny_pure ?_)
  refine wpAny_bind (W.self 0 s _ _ ⟨a1, a3, 0, a2, by simp⟩ ?_)
  refine wpAny_bind (wpAny_newObj_type ?_)
  rw [hname]
  have hfp : ∀ b ∈ [f, I, d], b < s.heap.objs.size := by
    intro b hb
    obtain ⟨oI, hoI, _⟩ := a2
    obtain ⟨od, _, hod, _⟩ := a3
    rcases List.mem_cons.mp hb with rfl | hb
    · exact Heap.lt_size a1
    · rcases List.mem_cons.mp hb with rfl | hb
      · exact Heap.lt_size hoI
      · rw [List.mem_singleton.mp hb]; exact Heap.lt_size hod
  have hSf : s.heap.objs.size ∉ [f, I, d] := fun hm => Nat.lt_irrefl _ (hfp _ hm)
  refine wpAny_pure ⟨plainId_quiet PySem.F.plain_max_loop _, max_loop_first W td s.heap.objs.size hSf (W.frame 0 s.heap _ ⟨a1, a3, 0, a2, by simp⟩ fun b _ o e => Heap.get?_push_of_some _ e) (Heap.get?_push_size _ rfl) fun b t h' tk hb hk => ?_⟩
  have hk' : ∀ b o, b ∉ [I] → s.heap.get? b = some o → h'.get? b = some o := fun b o hb e => hk b o hb (Nat.ne_of_lt (Heap.lt_size e)) (Heap.get?_push_of_some _ e)
  exact h b t h' tk (kmk_fr F hk' hIL hI0) (kmk_news N hk' hIn) hb
end

-- part: Hdr3
def hasNone (kvs : List (Int × Value)) : Bool := kvs.any fun p => isNone p.2
section
variable {prog : Program} {w : World} {knd : KeyKind prog w Int} {A : Around} {E : Value → Shared → Prop} {s : Shared} {h₀ : Heap} {L V d : Addr} {m : Str → Option Value} {news : List (Addr × Obj)} {o : Obj} {kvs : List (Int × Value)}
theorem nin_K {Q : Value → Shared → Prop} (hh : A.handled = none) (F : Fr h₀ L s.heap m) (N : News h₀ L s.heap news) (hV : (V, { cls := .type "dict_values", data := .fields #[.ref d] }) ∈ news) (hp : (d, o) ∈ news) (hd : o.IsDictOf knd kvs) (hok : KvOk kvs)
    (h : ∀ h' tk, Fr h₀ L h' m → News h₀ L h' news → Q (.bool (hasNone kvs)) { s with heap := h', toks := tk }) :
    wpAny (model prog w) A (compareOp .In .none (.ref V)) Q E s := by
  obtain ⟨ep, hat⟩ := dictAt_of (N _ hp).1 hd
  refine none_in_values hh ⟨_, (N _ hV).1, rfl, rfl⟩ hat (fun p hp => ?_) fun h' tk a4 => ?_
  · rcases (hok.2 p hp).2 with e | ⟨i, t, e, _⟩
    · exact .inl e
    · exact .inr ⟨i, t, e⟩
  · obtain ⟨oL, es, ep', hL, hr⟩ := F.ns
    exact h h' tk ⟨⟨oL, es, ep', a4 _ _ hL, hr⟩, fun b x e => a4 b x (F.keep b x e), F.above⟩ (fun p hp => ⟨a4 _ _ (N p hp).1, (N p hp).2⟩)
end
section
variable {prog : Program} {w : World} {A : Around} {E : Value → Shared → Prop} {s : Shared} {h₀ : Heap} {L a b : Addr} {news : List (Addr × Obj)}
theorem eq_nil_K {vs : List Value} {ns : List Int} {n k : Nat} {Q : Value → Shared → Prop} (N : News h₀ L s.heap news) (ha : (a, W.listOf vs.toArray n) ∈ news) (hb : (b, W.listOf #[] k) ∈ news) (hi : IntsAre vs ns) (hu : A.units + 64 < cLine)
    (h : Q (.bool (decide (ns = []))) s) : wpAny (model prog w) A (compareOp .Eq (.ref a) (.ref b)) Q E s :=
  eq_intsK (us := []) ⟨_, (N _ ha).1, rfl, _, rfl⟩ hi ⟨_, (N _ hb).1, rfl, _, rfl⟩ .nil hu h
end
section
variable {prog : Program} {w : World} {A : Around} {E : Value → Shared → Prop} {s : Shared} {h₀ : Heap} {L a : Addr} {news : List (Addr × Obj)} {value slice : PySem.Expr} {u : Tok}
theorem last_K {vs : List Value} {ns : List Int} {n : Nat} {Q : Value → Shared → Prop} (N : News h₀ L s.heap news) (hm : (a, W.listOf vs.toArray n) ∈ news) (hi : IntsAre vs ns) (hne : ns ≠ [])
    (h : ∀ t, Q (.int (ns.getLastD 0) t) s)
    (hs : subscripted slice false (.ref a) (.int (-1) u) = operate [.ref a, .int (-1) u] (getItem (.ref a) (.int (-1) u)) := by with_unfolding_all rfl) (hg : ∀ r, letTemporaryGo value (.ref a) r = pure () := by intro _; with_unfolding_all rfl) :
    wpAny (model prog w) A (subscriptTail value slice (.ref a) (.int (-1) u)) Q E s := by
  have hlen := hi.length
  have hpos : 0 < ns.length := List.length_pos_iff.mpr hne
  have e : (-1 + (vs.length : Int)).toNat = ns.length - 1 := by omega
  have hx : ns[ns.length - 1]? = some (ns.getLastD 0) := by
    rw [← List.getLast?_eq_getElem?, List.getLastD_eq_getLast?, List.getLast?_eq_some_getLast hne]
    rfl
  obtain ⟨t, ht⟩ := hi.get _ _ hx
  exact kim_back (l := vs) (k := -1) N hm rfl rfl (by decide) (by omega) (by decide) (by rw [e]; exact ht) (h t) hs hg
end
theorem KvOk.vals {kvs : List (Int × Value)} (h : KvOk kvs) : ∀ p ∈ kvs, ValOk p.2 := fun p hp => (h.2 p hp).2
theorem posL_mem {kvs : List (Int × Value)} (h : KvOk kvs) {x : Int} (hx : x ∈ posL kvs) : 0 < x ∧ x < 1000000 := by
  obtain ⟨p, hp, hm⟩ := List.mem_flatMap.mp hx
  rcases (h.2 p hp).2 with e | ⟨i, t, e, h0, h1⟩
  · rw [e] at hm; cases hm
  · rw [e] at hm
    change x ∈ (if 0 < i then [i] else []) at hm
    by_cases hi : 0 < i
    · rw [if_pos hi] at hm; rw [List.mem_singleton.mp hm]; exact ⟨hi, h1⟩
    · rw [if_neg hi] at hm; cases hm
theorem maxOr_lo {kvs : List (Int × Value)} (h : KvOk kvs) {b : Int} (hb : MaxOr (posL kvs) b) : -1 ≤ b := by
  rcases hb with ⟨_, rfl⟩ | ⟨hm, _⟩
  · decide
  · have := posL_mem h hm; omega
theorem maxOr_hi {kvs : List (Int × Value)} (h : KvOk kvs) {b : Int} (hb : MaxOr (posL kvs) b) : b < 1000000 := by
  rcases hb with ⟨_, rfl⟩ | ⟨hm, _⟩
  · decide
  · have := posL_mem h hm; omega
theorem newsTail {h₀ h : Heap} {L : Addr} {p : Addr × Obj} {r : List (Addr × Obj)} (N : News h₀ L h (p :: r)) : News h₀ L h r := fun x hx => N x (.tail _ hx)

-- part: Pl4
/-- how many digits -/
def nd (m : Int) : Int := if m < 10 then 1 else if m < 100 then 2 else if m < 1000 then 3 else if m < 10000 then 4 else if m < 100000 then 5 else 6
/-- the width that both sides reckon -/
def Wd (b : Int) (hn : Bool) : Int := if b = -1 then 0 else if (if nd b > 3 then nd b else 3) < 4 ∧ hn = true then 4 else (if nd b > 3 then nd b else 3)
theorem nd_text {b : Int} (h0 : 0 < b) (h1 : b < 1000000) : (((Str.ofString (toString b)).length : Nat) : Int) = nd b := by
  obtain ⟨m, rfl⟩ : ∃ m : Nat, b = (m : Int) := ⟨b.toNat, by omega⟩
  have hs : (Str.ofString (toString ((m : Nat) : Int))).length = (Nat.toDigits 10 m).length := by
    show (Str.ofString (toString ((m : Nat) : Int))).cps.size = _
    rw [← Array.length_toList, PySem.W.KIN.signs_num, List.length_map]
  rw [hs]
  have h := fun k (hk : 0 < k) => Nat.length_toDigits_le_iff (b := 10) (n := m) (k := k) (by decide) hk
  have p1 := h 1 (by decide)
  have p2 := h 2 (by decide)
  have p3 := h 3 (by decide)
  have p4 := h 4 (by decide)
  have p5 := h 5 (by decide)
  have p6 := h 6 (by decide)
  have p0 : 0 < (Nat.toDigits 10 m).length := Nat.length_toDigits_pos
  simp only [Nat.reducePow] at p1 p2 p3 p4 p5 p6
  unfold nd
  split
  · omega
  · split
    · omega
    · split
      · omega
      · split
        · omega
        · split
          · omega
          · omega
theorem maxOr_pos {kvs : List (Int × Value)} (h : KvOk kvs) {b : Int} (hb : MaxOr (posL kvs) b) (hne : b ≠ -1) : 0 < b := by
  rcases hb with ⟨_, rfl⟩ | ⟨hm, _⟩
  · exact absurd rfl hne
  · exact (posL_mem h hm).1
theorem Wd_zero {b : Int} {hn : Bool} (h : b = -1) : (0 : Int) = Wd b hn := by unfold Wd; rw [if_pos h]
theorem Wd_of {b : Int} {hn : Bool} (hne : b ≠ -1) (h : ¬ ((if nd b > 3 then nd b else 3) < 4 ∧ hn = true)) : Wd b hn = (if nd b > 3 then nd b else 3) := by
  unfold Wd
  rw [if_neg hne]
  exact if_neg h
section
variable {kvs : List (Int × Value)} (hok : KvOk kvs) {b : Int} (hb : MaxOr (posL kvs) b) (hne : b ≠ -1)
include hok hb hne
theorem Wd_four (h : (if (((Str.ofString (toString b)).length : Nat) : Int) > 3 then (((Str.ofString (toString b)).length : Nat) : Int) else 3) < ((4 : Nat) : Int)) (hn : hasNone kvs = true) : ((4 : Nat) : Int) = Wd b (hasNone kvs) := by
  have h0 := maxOr_pos hok hb hne
  have h1 := maxOr_hi hok hb
  rw [nd_text h0 h1] at h
  unfold Wd
  rw [if_neg hne, if_pos ⟨h, hn⟩]; rfl
theorem Wd_plain (hn : hasNone kvs = false) : (if (((Str.ofString (toString b)).length : Nat) : Int) > 3 then (((Str.ofString (toString b)).length : Nat) : Int) else 3) = Wd b (hasNone kvs) := by
  have h0 := maxOr_pos hok hb hne
  have h1 := maxOr_hi hok hb
  rw [nd_text h0 h1]
  exact (Wd_of hne fun x => by rw [hn] at x; exact absurd x.2 Bool.false_ne_true).symm
theorem Wd_more (h : ¬ (if (((Str.ofString (toString b)).length : Nat) : Int) > 3 then (((Str.ofString (toString b)).length : Nat) : Int) else 3) < ((4 : Nat) : Int)) :
    (if (((Str.ofString (toString b)).length : Nat) : Int) > 3 then (((Str.ofString (toString b)).length : Nat) : Int) else 3) = Wd b (hasNone kvs) := by
  have h0 := maxOr_pos hok hb hne
  have h1 := maxOr_hi hok hb
  rw [nd_text h0 h1] at h ⊢
  exact (Wd_of hne fun x => h x.1).symm
end

/-- the powers of ten that _law_width writes -/
def pw : List Int := [10, 100, 1000, 10 ^ Int.toNat 4, 10 ^ Int.toNat 5]
theorem pw_srt : pw.Pairwise (· ≤ ·) := by decide
theorem pw_len : pw.length ≤ 64 := by decide
theorem nd_bis {x r : Int} (h : EndR pw x r) : r + 1 = nd x := by
  obtain ⟨h0, h1, hl, hr⟩ := h
  have e0 : pw.getD 0 0 = 10 := rfl
  have e1 : pw.getD 1 0 = 100 := rfl
  have e2 : pw.getD 2 0 = 1000 := rfl
  have e3 : pw.getD 3 0 = 10000 := rfl
  have e4 : pw.getD 4 0 = 100000 := rfl
  have hlen : pw.length = 5 := rfl
  have a0 := hl 0; have a1 := hl 1; have a2 := hl 2; have a3 := hl 3; have a4 := hl 4
  have b0 := hr 0; have b1 := hr 1; have b2 := hr 2; have b3 := hr 3; have b4 := hr 4
  rw [hlen] at h1 b0 b1 b2 b3 b4
  rw [e0] at a0 b0; rw [e1] at a1 b1; rw [e2] at a2 b2; rw [e3] at a3 b3; rw [e4] at a4 b4
  unfold nd
  split
  · omega
  · split
    · omega
    · split
      · omega
      · split
        · omega
        · split
          · omega
          · omega
theorem maxOr_nil {kvs : List (Int × Value)} {ns : List Int} (h : Inv kvs ns) (hn : ns = []) : MaxOr (posL kvs) (-1) := by
  subst hn
  exact .inl ⟨List.nil_perm.mp h.2.2, rfl⟩
theorem last_mem {ns : List Int} (hn : ns ≠ []) : ns.getLastD 0 ∈ ns := by
  rw [List.getLastD_eq_getLast?, List.getLast?_eq_some_getLast hn]
  exact List.getLast_mem hn
theorem maxOr_last {kvs : List (Int × Value)} {ns : List Int} (h : Inv kvs ns) (hn : ns ≠ []) : MaxOr (posL kvs) (ns.getLastD 0) := by
  refine .inr ⟨h.2.2.mem_iff.mp (last_mem hn), fun x hx => ?_⟩
  have hx' := h.2.2.mem_iff.mpr hx
  obtain ⟨i, hi, rfl⟩ := List.mem_iff_getElem.mp hx'
  have hs := srt_mono h.2.1 (i := i) (j := ns.length - 1) (by omega) (by omega)
  rw [getD_of hi, getD_of (by omega)] at hs
  have e : ns.getLastD 0 = ns[ns.length - 1]'(by omega) := by
    rw [List.getLastD_eq_getLast?, List.getLast?_eq_some_getLast hn, List.getLast_eq_getElem]; rfl
  rw [e]; exact hs
theorem last_ne {kvs : List (Int × Value)} {ns : List Int} (h : Inv kvs ns) (hn : ns ≠ []) : ns.getLastD 0 ≠ -1 := by
  have h1 := posL_mem h.1 (h.2.2.mem_iff.mp (last_mem hn))
  omega
section
variable {b r : Int} (hne : b ≠ -1) (hr : EndR pw b r)
include hne hr
theorem Wr_four {hn : Bool} (h : (if r + 1 > 3 then r + 1 else 3) = 3) (hb : hn = true) : (4 : Int) = Wd b hn := by
  subst hb
  rw [nd_bis hr] at h
  unfold Wd
  rw [if_neg hne, if_pos ⟨by omega, rfl⟩]
theorem Wr_plain {hn : Bool} (hb : hn = false) : (if r + 1 > 3 then r + 1 else 3) = Wd b hn := by
  subst hb
  rw [nd_bis hr]
  exact (Wd_of hne fun x => absurd x.2 Bool.false_ne_true).symm
theorem Wr_more {hn : Bool} (h : (if r + 1 > 3 then r + 1 else 3) ≠ 3) : (if r + 1 > 3 then r + 1 else 3) = Wd b hn := by
  rw [nd_bis hr] at h ⊢
  refine (Wd_of hne fun x => h ?_).symm
  have := x.1
  by_cases h3 : nd b > 3
  · rw [if_pos h3] at this; omega
  · rw [if_neg h3]
end

-- part: Get
theorem get_ctr (w : World) (mean : ExcName → Option Value) (mg mb : Str → Option Value) (t : Addr) (o : Obj) (kvs : List (Int × Value)) (own : List (Addr × Obj))
    (hD : o.IsDictOf (PySem.intKind PySem.Challenge.rw_nb0111_01.row.prog w) kvs) (lo : (t == sysModules) = false) (hok : KvOk kvs) :
    Ctr w mean mg mb 2 60 21 [.ref t] ((t, o) :: own)
      (fun v news' => ∃ b t', v = .int (Wd b (hasNone kvs)) t' ∧ MaxOr (posL kvs) b ∧ news' = (t, o) :: own) := by
  unfold Ctr
  k_fill
  k_with_none
  intro dp un gd cn cs a ccd cl outer A₀ base h₀ L m s Q E B F X N T hk hd hu hret
  refine wpAny_call ?_
  k_dflt cell_enter
  (k_with "call type:filter" => (k_here; refine' filter_K ?F ?N ?yV ?yp hD ?_; (case F => k_asm); (case N => k_asm); (case yV => exact .head _); (case yp => exact .tail _ (.head _)); intro h9 f9 F9 N9 hf9; (try dsimp only)))
  (k_with "call builtin:max" => (k_here; with_unfolding_all refine' max_K ?yh ?F ?N hf9 hok.vals ?_; (case yh => rfl); (case F => k_asm); (case N => k_asm); intro b8 t8 h8 tk8 F8 N8 hb8; have hb8lo := maxOr_lo hok hb8; have hb8hi := maxOr_hi hok hb8; (try dsimp only)))
  (k_with "compareOp In none ref" => (k_here; refine' nin_K ?yh ?F ?N ?yV ?yp hD hok ?_; (case yh => rfl); (case F => k_asm); (case N => k_asm); (case yV => exact .head _); (case yp => k_mem); intro h7 tk7 F7 N7; (try dsimp only)))
  k_steps
  all_goals (first
    | exact hret _ _ _ _ (by k_asm) (newsTail (by k_asm)) ⟨b8, _, congrArg (Value.int · _) (Wd_zero (by assumption)), hb8, rfl⟩
    | exact hret _ _ _ _ (by k_asm) (newsTail (newsTail (by k_asm))) ⟨b8, _, congrArg (Value.int · _) (Wd_four hok hb8 (by assumption) (by assumption) (by assumption)), hb8, rfl⟩
    | exact hret _ _ _ _ (by k_asm) (newsTail (newsTail (by k_asm))) ⟨b8, _, congrArg (Value.int · _) (Wd_plain hok hb8 (by assumption) (by assumption)), hb8, rfl⟩
    | exact hret _ _ _ _ (by k_asm) (newsTail (by k_asm)) ⟨b8, _, congrArg (Value.int · _) (Wd_more hok hb8 (by assumption) (by assumption)), hb8, rfl⟩)
/-- the same, for a ledger that holds the table somewhere -/
theorem get_in (w : World) (mean : ExcName → Option Value) (mg mb : Str → Option Value) (t : Addr) (o : Obj) (kvs : List (Int × Value)) (news : List (Addr × Obj))
    (ht : (t, o) ∈ news) (hD : o.IsDictOf (PySem.intKind PySem.Challenge.rw_nb0111_01.row.prog w) kvs) (lo : (t == sysModules) = false) (hok : KvOk kvs) :
    Ctr w mean mg mb 2 60 21 [.ref t] news (fun v news' => ∃ b t', v = .int (Wd b (hasNone kvs)) t' ∧ MaxOr (posL kvs) b ∧ news' = news) := by
  intro dp un gd cn cs a ccd cl outer A₀ base h₀ L m s Q E B F X N T hk hd hu hret
  refine get_ctr w mean mg mb t o kvs news hD lo hok dp un gd cn cs a ccd cl outer A₀ base h₀ L m s Q E B F X (fun p hp => ?_) T hk hd hu ?_
  · rcases List.mem_cons.mp hp with rfl | hp
    · exact N _ ht
    · exact N p hp
  · rintro v news' h' tk' F' N' ⟨b, t', e, hb, rfl⟩
    exact hret v news h' tk' F' (newsTail N') ⟨b, t', e, hb, rfl⟩

-- part: Wid
theorem wid_ctr (w : World) (mean : ExcName → Option Value) (mg mb : Str → Option Value) (t l : Addr) (o : Obj) (kvs : List (Int × Value)) (vs : List Value) (ns : List Int) (nn : Nat) (own : List (Addr × Obj))
    (hD : o.IsDictOf (PySem.intKind PySem.Challenge.rw_nb0111_01.row.prog w) kvs) (lo : (t == sysModules) = false) (hI : IntsAre vs ns) (hinv : Inv kvs ns) :
    Ctr w mean mg mb 3 100 62 [.ref t, .ref l] ((t, o) :: (l, W.listOf vs.toArray nn) :: own)
      (fun v news' => ∃ b t', v = .int (Wd b (hasNone kvs)) t' ∧ MaxOr (posL kvs) b ∧ news' = (t, o) :: (l, W.listOf vs.toArray nn) :: own) := by
  unfold Ctr
  k_fill
  k_with_none
  intro dp un gd cn cs a ccd cl outer A₀ base h₀ L m s Q E B F X N T hk hd hu hret
  refine wpAny_call ?_
  k_dflt cell_enter
  (k_with "compareOp In none ref" => (k_here; refine' nin_K ?yh ?F ?N ?yV ?yp hD hinv.1 ?_; (case yh => rfl); (case F => k_asm); (case N => k_asm); (case yV => exact .head _); (case yp => k_mem); intro h7 tk7 F7 N7; (try dsimp only)))
  (k_with "compareOp Eq ref ref" => (k_here; refine' eq_nil_K ?yN ?ya ?yb hI ?yu ?_; (case yN => k_asm); (case ya => exact .tail _ (.tail _ (.head _))); (case yb => exact .head _); (case yu => ktr_units); (try dsimp only)))
  (k_with "subscriptTail" => (k_here; refine' last_K (ns := ns) (vs := vs) ?yN ?ym hI (of_decide_eq_false (by assumption)) ?_; (case yN => k_asm); (case ym => k_mem); intro t9; (try dsimp only)))
  (k_with "call ref" => (k_here; refine' Ctr.use (br_ctr2 w mean mg mb _ _ pw _ _ _ _ (.cons _ _ (.cons _ _ (.cons _ _ (.cons _ _ (.cons _ _ .nil))))) pw_len pw_srt) ?k1 ?k2 ?k3 ?k4 ?k5 ?kK ?kd ?ku ?_; (case k1 => k_asm); (case k2 => k_asm); (case k3 => k_asm); (case k4 => k_asm); (case k5 => k_asm); (case kK => exact rfl); (case kd => ktr_room); (case ku => ktr_units); rintro v6 news6 h6 tk6 F6 N6 ⟨r6, t6, e6, e6', hr6⟩; subst e6; subst e6'; (try dsimp only); (try k_fold)))
  k_steps
  all_goals (first
    | exact hret _ _ _ _ (by k_asm) (newsTail (by k_asm)) ⟨-1, _, congrArg (Value.int · _) (Wd_zero rfl), maxOr_nil hinv (of_decide_eq_true (by assumption)), rfl⟩
    | (have hne9 : ns ≠ [] := of_decide_eq_false (by assumption)
       first
         | exact hret _ _ _ _ (by k_asm) (newsTail (newsTail (newsTail (by k_asm)))) ⟨_, _, congrArg (Value.int · _) (Wr_four (last_ne hinv hne9) hr6 (by assumption) (by assumption)), maxOr_last hinv hne9, rfl⟩
         | exact hret _ _ _ _ (by k_asm) (newsTail (newsTail (newsTail (by k_asm)))) ⟨_, _, congrArg (Value.int · _) (Wr_plain (last_ne hinv hne9) hr6 (by assumption)), maxOr_last hinv hne9, rfl⟩
         | exact hret _ _ _ _ (by k_asm) (newsTail (newsTail (by k_asm))) ⟨_, _, congrArg (Value.int · _) (Wr_more (last_ne hinv hne9) hr6 (by assumption)), maxOr_last hinv hne9, rfl⟩))
/-- the same, for a ledger that holds the two somewhere -/
theorem wid_in (w : World) (mean : ExcName → Option Value) (mg mb : Str → Option Value) (t l : Addr) (o : Obj) (kvs : List (Int × Value)) (vs : List Value) (ns : List Int) (nn : Nat) (news : List (Addr × Obj))
    (ht : (t, o) ∈ news) (hl : (l, W.listOf vs.toArray nn) ∈ news) (hD : o.IsDictOf (PySem.intKind PySem.Challenge.rw_nb0111_01.row.prog w) kvs) (lo : (t == sysModules) = false) (hI : IntsAre vs ns) (hinv : Inv kvs ns) :
    Ctr w mean mg mb 3 100 62 [.ref t, .ref l] news (fun v news' => ∃ b t', v = .int (Wd b (hasNone kvs)) t' ∧ MaxOr (posL kvs) b ∧ news' = news) := by
  intro dp un gd cn cs a ccd cl outer A₀ base h₀ L m s Q E B F X N T hk hd hu hret
  refine wid_ctr w mean mg mb t l o kvs vs ns nn news hD lo hI hinv dp un gd cn cs a ccd cl outer A₀ base h₀ L m s Q E B F X (fun p hp => ?_) T hk hd hu ?_
  · rcases List.mem_cons.mp hp with rfl | hp
    · exact N _ ht
    · rcases List.mem_cons.mp hp with rfl | hp
      · exact N _ hl
      · exact N p hp
  · rintro v news' h' tk' F' N' ⟨b, t', e, hb, rfl⟩
    exact hret v news h' tk' F' (newsTail (newsTail N')) ⟨b, t', e, hb, rfl⟩

-- part: Pl5
theorem maxOr_uniq {xs : List Int} {b c : Int} (hb : MaxOr xs b) (hc : MaxOr xs c) : b = c := by
  rcases hb with ⟨h1, h2⟩ | ⟨h1, h2⟩
  · rcases hc with ⟨_, h4⟩ | ⟨h3, _⟩
    · omega
    · rw [h1] at h3; cases h3
  · rcases hc with ⟨h3, _⟩ | ⟨h3, h4⟩
    · rw [h3] at h1; cases h1
    · have := h2 c h3
      have := h4 b h1
      omega
theorem kv_nil : KvOk [] := inv_nil.1
theorem Inv.kv {kvs : List (Int × Value)} {ns : List Int} (h : Inv kvs ns) : KvOk kvs := h.1

-- part: Loop
/-- a turn's end: the table and the list go together again, all else stands -/
def TurnEnd {prog : Program} {w : World} (knd : KeyKind prog w Int) (h₀ : Heap) (L : Addr) (x : Str) (m₀ : Str → Option Value) (l d : Addr) (rest : List (Addr × Obj)) (s₁ s₂ : Shared) : Prop :=
  ∃ h' tk m' o kvs vs ns nn, s₂ = { s₁ with heap := h', toks := tk } ∧ Fr h₀ L h' m' ∧ News h₀ L h' ((l, W.listOf vs.toArray nn) :: (d, o) :: rest) ∧ o.IsDictOf knd kvs ∧ IntsAre vs ns ∧ Inv kvs ns ∧ ∀ z, z ≠ x → m' z = m₀ z
def TurnPost {prog : Program} {w : World} (knd : KeyKind prog w Int) (h₀ : Heap) (L : Addr) (x : Str) (m₀ : Str → Option Value) (l d : Addr) (rest : List (Addr × Obj)) (s₁ : Shared) (Q : Flow → Shared → Prop) (f : Flow) (s₂ : Shared) : Prop :=
  match f with
  | .ret v => Q (.ret v) s₂
  | .brk => Q .next s₂
  | _ => TurnEnd knd h₀ L x m₀ l d rest s₁ s₂
theorem turn_next {prog : Program} {w : World} {knd : KeyKind prog w Int} {h₀ : Heap} {L : Addr} {x : Str} {m₀ m' : Str → Option Value} {l d : Addr} {rest : List (Addr × Obj)} {s₁ : Shared} {Q : Flow → Shared → Prop} {h' : Heap} {tk : Nat} {o : Obj} {kvs : List (Int × Value)} {vs : List Value} {ns : List Int} {nn : Nat}
    (F : Fr h₀ L h' m') (N : News h₀ L h' ((l, W.listOf vs.toArray nn) :: (d, o) :: rest)) (hD : o.IsDictOf knd kvs) (hI : IntsAre vs ns) (hinv : Inv kvs ns) (hm : ∀ z, z ≠ x → m' z = m₀ z) :
    TurnPost knd h₀ L x m₀ l d rest s₁ Q .next { s₁ with heap := h', toks := tk } := ⟨h', tk, m', o, kvs, vs, ns, nn, rfl, F, N, hD, hI, hinv, hm⟩
section
variable {prog : Program} {w : World} {A : Around} {E : Value → Shared → Prop} {s : Shared} {env : Env} {h₀ : Heap} {x : Str} {body : List Stmt} {Q : Flow → Shared → Prop}
theorem law_loop {D l d : Addr} {ws vs₀ : List Value} {xs ns₀ : List Int} {nw nn₀ : Nat} {o₀ : Obj} {kvs₀ : List (Int × Value)} {m₀ : Str → Option Value} {D1 D2 : Addr} {ob1 ob2 : Obj}
    (hh : A.handled = none) (hi : IntsAre ws xs) (F : Fr h₀ env.locals s.heap m₀) (N : News h₀ env.locals s.heap [(D, W.listOf ws.toArray nw), (D1, ob1), (D2, ob2), (l, W.listOf vs₀.toArray nn₀), (d, o₀)])
    (hD₀ : o₀.IsDictOf (PySem.intKind prog w) kvs₀) (hI₀ : IntsAre vs₀ ns₀) (hinv₀ : Inv kvs₀ ns₀) (a1 : @LT.lt Nat instLTNat l D) (a2 : @LT.lt Nat instLTNat d D) (a3 : @LT.lt Nat instLTNat l D1) (a4 : @LT.lt Nat instLTNat d D1) (a5 : @LT.lt Nat instLTNat l D2) (a6 : @LT.lt Nat instLTNat d D2)
    (turn : ∀ n t o kvs vs ns nn h tk rest, OwnOff rest [d, l] → o.IsDictOf (PySem.intKind prog w) kvs → IntsAre vs ns → Inv kvs ns → Fr h₀ env.locals h (fun y => if y = x then some (.int n t) else m₀ y) →
      News h₀ env.locals h ((l, W.listOf vs.toArray nn) :: (d, o) :: rest) →
      wpAny (model prog w) A (execs body env) (TurnPost (PySem.intKind prog w) h₀ env.locals x m₀ l d rest { s with heap := h, toks := tk } Q) E { s with heap := h, toks := tk })
    (done : ∀ (u : Str → Option Value) h tk news, Fr h₀ env.locals h (fun y => if y = x then u y else m₀ y) → News h₀ env.locals h news → Q .next { s with heap := h, toks := tk }) :
    wpAny (model prog w) A (pyIter (.ref D)) (fun it s₂ => LoopAtV prog w A h₀ env x body Q E it s₂) E s := by
  refine iter_invNL (l := D) (nn := nw) (fun _ m nx => ∃ o kvs vs ns nn, nx = [(D, W.listOf ws.toArray nw), (D1, ob1), (D2, ob2), (l, W.listOf vs.toArray nn), (d, o)] ∧ o.IsDictOf (PySem.intKind prog w) kvs ∧ IntsAre vs ns ∧ Inv kvs ns ∧ ∀ z, z ≠ x → m z = m₀ z)
    hh (.head _) hi F N ⟨o₀, kvs₀, vs₀, ns₀, nn₀, rfl, hD₀, hI₀, hinv₀, fun _ _ => rfl⟩ ?_ ?_
  · rintro i n t m₁ nx h tk own hn _ hoff _ ⟨o, kvs, vs, ns, nn, rfl, hD, hI, hinv, hm⟩ F₁ N₁
    have e : (fun z => if z = x then some (Value.int n t) else m₁ z) = fun z => if z = x then some (Value.int n t) else m₀ z := by
      funext z
      by_cases h1 : z = x
      · simp [h1]
      · simp only [if_neg h1]; exact hm z h1
    rw [e] at F₁
    have hrest : OwnOff ((D, W.listOf ws.toArray nw) :: (D1, ob1) :: (D2, ob2) :: own) [d, l] := by
      intro p hp b hb
      have hb' : b = d ∨ b = l := by simpa using hb
      have ho : p ∈ own → p.1 ≠ b := fun hp => hoff p hp b (by rcases hb' with rfl | rfl <;> simp)
      rcases List.mem_cons.mp hp with rfl | hp
      · rcases hb' with rfl | rfl <;> (apply Nat.ne_of_gt; assumption)
      · rcases List.mem_cons.mp hp with rfl | hp
        · rcases hb' with rfl | rfl <;> (apply Nat.ne_of_gt; assumption)
        · rcases List.mem_cons.mp hp with rfl | hp
          · rcases hb' with rfl | rfl <;> (apply Nat.ne_of_gt; assumption)
          · exact ho hp
    refine wpAny_mono (turn n t o kvs vs ns nn h tk ((D, W.listOf ws.toArray nw) :: (D1, ob1) :: (D2, ob2) :: own) hrest hD hI hinv F₁ (fun p hp => N₁ p (by simp at hp ⊢; rcases hp with h | h | h | h | h | h <;> simp [h]))) (fun f s₂ p => ?_) fun _ _ e => e
    have fin : TurnEnd (PySem.intKind prog w) h₀ env.locals x m₀ l d ((D, W.listOf ws.toArray nw) :: (D1, ob1) :: (D2, ob2) :: own) { s with heap := h, toks := tk } s₂ →
        InvEndN h₀ env.locals (fun m' nx => (D, W.listOf ws.toArray nw) ∈ nx ∧ ∃ o kvs vs ns nn, nx = [(D, W.listOf ws.toArray nw), (D1, ob1), (D2, ob2), (l, W.listOf vs.toArray nn), (d, o)] ∧ o.IsDictOf (PySem.intKind prog w) kvs ∧ IntsAre vs ns ∧ Inv kvs ns ∧ ∀ z, z ≠ x → m' z = m₀ z) own
          ([(D, W.listOf ws.toArray nw), (D1, ob1), (D2, ob2), (l, W.listOf vs₀.toArray nn₀), (d, o₀)].map (·.1)) { s with heap := h, toks := tk } s₂ := by
      rintro ⟨h', tk', m', o', kvs', vs', ns', nn', rfl, F', N', hD', hI', hinv', hm'⟩
      exact ⟨h', tk', m', _, [(D, W.listOf ws.toArray nw), (D1, ob1), (D2, ob2), (l, W.listOf vs'.toArray nn'), (d, o')], rfl, F', N', fun p hp => by simp at hp ⊢; rcases hp with h | h | h | h | h <;> simp [h], fun p hp => by simp [hp], rfl,
        .head _, o', kvs', vs', ns', nn', rfl, hD', hI', hinv', hm'⟩
    cases f with
    | ret v => exact p
    | brk => exact p
    | next => exact fin p
    | cont => exact fin p
  · rintro m₁ nx h tk _ ⟨o, kvs, vs, ns, nn, rfl, hD, hI, hinv, hm⟩ F₁ N₁
    refine done m₁ h tk _ ?_ N₁
    have e : (fun z => if z = x then m₁ z else m₀ z) = m₁ := by
      funext z
      by_cases h1 : z = x
      · simp [h1]
      · simp only [if_neg h1]; exact (hm z h1).symm
    rw [e]; exact F₁
end
end Mine

theorem PySem.Challenge.cw_nb0111_01_holds : PySem.Challenge.rw_nb0111_01.Holds := by
  refine Mine.hd ?_
  k_with_none
  (k_with "call ref" => (k_here; k_dflt (first | (refine' Mine.Ctr.use (Mine.done_in _ _ _ _ _ _ _ kvs5 _ _ _ _ _ _ hoff5 ?yt hD5 ?yl hI5 hinv5) ?k1 ?k2 ?k3 ?k4 ?k5 ?kK ?kd ?ku ?_; (case k1 => k_asm); (case k2 => k_asm); (case k3 => k_asm); (case k4 => k_asm); (case k5 => k_asm); (case kK => exact rfl); (case kd => ktr_room); (case ku => ktr_units); (case yt => assumption); (case yl => assumption); rintro v4 news4 h4 tk4 F4 N4 ⟨e4, o3, kvs3, vs3, ns3, nn3, hD3, hI3, hinv3, e4'⟩; subst e4; subst e4'; (try dsimp only); (try k_fold)) | (refine' Mine.Ctr.use (Mine.get_in _ _ _ _ _ _ kvs3 _ ?yo hD3 ?yl (Mine.Inv.kv hinv3)) ?k1 ?k2 ?k3 ?k4 ?k5 ?kK ?kd ?ku ?_; (case k1 => k_asm); (case k2 => k_asm); (case k3 => k_asm); (case k4 => k_asm); (case k5 => k_asm); (case kK => exact rfl); (case kd => ktr_room); (case ku => ktr_units); (case yo => k_mem); (case yl => assumption); rintro v6 news6 h6 tk6 F6 N6 ⟨b6, t6, e6, hb6, e6'⟩; subst e6; subst e6'; (try dsimp only); (try k_fold)) | (refine' Mine.Ctr.use (Mine.wid_in _ _ _ _ _ _ _ kvs3 vs3 ns3 _ _ ?yo ?yp hD3 ?yl hI3 hinv3) ?k1 ?k2 ?k3 ?k4 ?k5 ?kK ?kd ?ku ?_; (case k1 => k_asm); (case k2 => k_asm); (case k3 => k_asm); (case k4 => k_asm); (case k5 => k_asm); (case kK => exact rfl); (case kd => ktr_room); (case ku => ktr_units); (case yo => k_mem); (case yp => k_mem); (case yl => assumption); rintro v7 news7 h7 tk7 F7 N7 ⟨b7, t7, e7, hb7, e7'⟩; subst e7; subst e7'; have e8 := Mine.maxOr_uniq hb7 hb6; subst e8; (try dsimp only); (try k_fold)) | (refine' Mine.Ctr.use (Mine.get_in _ _ _ _ _ _ [] _ ?yo ?yD ?yl Mine.kv_nil) ?k1 ?k2 ?k3 ?k4 ?k5 ?kK ?kd ?ku ?_; (case k1 => k_asm); (case k2 => k_asm); (case k3 => k_asm); (case k4 => k_asm); (case k5 => k_asm); (case kK => exact rfl); (case kd => ktr_room); (case ku => ktr_units); (case yo => k_mem); (case yD => assumption); (case yl => assumption); rintro v6 news6 h6 tk6 F6 N6 ⟨b6, t6, e6, hb6, e6'⟩; subst e6; subst e6'; (try dsimp only); (try k_fold)) | (refine' Mine.Ctr.use (Mine.wid_in _ _ _ _ _ _ _ [] [] [] _ _ ?yo ?yp ?yD ?yl .nil Mine.inv_nil) ?k1 ?k2 ?k3 ?k4 ?k5 ?kK ?kd ?ku ?_; (case k1 => k_asm); (case k2 => k_asm); (case k3 => k_asm); (case k4 => k_asm); (case k5 => k_asm); (case kK => exact rfl); (case kd => ktr_room); (case ku => ktr_units); (case yo => k_mem); (case yp => k_mem); (case yD => assumption); (case yl => assumption); rintro v7 news7 h7 tk7 F7 N7 ⟨b7, t7, e7, hb7, e7'⟩; subst e7; subst e7'; have e8 := Mine.maxOr_uniq hb7 hb6; subst e8; (try dsimp only); (try k_fold)))))
  (k_with "exec For Name BinOp cons nil" => (k_here; (rename Fr _ _ _ _ => lF'); (with_unfolding_all refine' For_invVF lF' ?k1 ?k2 ?_; (case k1 => exact rfl); (case k2 => exact rfl); k_whole)))
  (k_with "pyIter ref" => (k_here; k_dflt (refine' Mine.law_loop ?yh ?yi ?yF ?yN ?yD .nil Mine.inv_nil ?z1 ?z2 ?z3 ?z4 ?z5 ?z6 ?c1 ?c2; (case yh => rfl); (case yi => assumption); (case yF => k_asm); (case yN => k_asm); (case yD => assumption); (case z1 => omega); (case z2 => omega); (case z3 => omega); (case z4 => omega); (case z5 => omega); (case z6 => omega); (case' c1 => (intro n5 t5 o5 kvs5 vs5 ns5 nn5 h5 tk5 rest5 hoff5 hD5 hI5 hinv5 F5 N5; (try dsimp only))); (case' c2 => (intro u5 h5 tk5 news5 F5 N5; (try dsimp only))))))
  k_go0; (all_goals try k_fold); k_steps
  all_goals (first
    | exact absurd (Eq.refl (Mine.Wd b7 (Mine.hasNone kvs3))) (by assumption)
    | exact Mine.turn_next (by k_asm) (by k_asm) hD3 hI3 hinv3 (fun z hz => if_neg hz))
